import JvmDerived
import JvmDerived.Pilot.@@N@@Statement
import JvmDerived.Pilot.@@N@@Code
set_option linter.unusedVariables false
set_option linter.unusedSimpArgs false

namespace Jvm.OwnW
theorem lbe {n m : Nat} (h : Nat.ble n m = true) : n ≤ m := Nat.le_of_ble_eq_true h
open Sem ClassFile Op Lib Jvm.Stand Jvm.Free Jvm.LawKit Jvm.RoadKit
/-! THE LAYER: a walk's state is (cells, slots, what is known of the new cells, pc, locals, stack); 'Go' says that from there the body returns with Q. -/
abbrev Fds := List (String × String × String × Value)
abbrev Desc := (String × Fds) ⊕ (FieldType × List Value)
abbrev Mem := List (Addr × Desc)
abbrev Bdy := MethodName × ByteArray × Nat × Option FieldType × Room
abbrev ob (a : Addr) (C : String) (fs : Fds) : Addr × Desc := (a, .inl (C, fs))
abbrev ar (a : Addr) (ty : FieldType) (vs : List Value) : Addr × Desc := (a, .inr (ty, vs))
def Holds (Z : State) (a0 : Array Value) (h : Heap) (a : Addr) : Desc → Prop
  | .inl (C, fs) => Exa Z h a C ∧ (∀ f ∈ fs, Fld Z h a f.1 f.2.1 f.2.2.1 f.2.2.2 ∧ Laid Z a0 C f.1 f.2.1 f.2.2.1 ∧ ∃ ty, parseFieldDescriptor f.2.2.1 = some ty) ∧ (fs.map (·.2.1)).Nodup
  | .inr (ty, vs) => ∃ c : Cell, Arr Z h a c ty ∧ c.slots.toList = vs ∧ (∀ C, ty = .object C → Ovr Z c.cls C)
/-- an array of no element: it can't be written, so it may be an old one -/
def Emp : Desc → Prop
  | .inl _ => False
  | .inr (_, vs) => vs = []
def Mo (Z : State) (a0 : Array Value) (h0 : Heap) (ds : Mem) (h : Heap) : Prop :=
  Ext h0 h ∧ (∀ q ∈ ds, (h0.size ≤ q.1 ∨ Emp q.2) ∧ Holds Z a0 h q.1 q.2) ∧ ds.Pairwise (fun q r => q.1 ≠ r.1)
section Facts
variable {Z : State} {a0 : Array Value} {h h' h0 : Heap} {a b : Addr} {D D' : Desc} {ds : Mem} {i : Nat} {sl : Nat} {v : Value}
theorem Holds.lt (H : Holds Z a0 h a D) : a < h.size := by
  rcases D with ⟨C, fs⟩ | ⟨ty, vs⟩
  · exact H.1.lt
  · obtain ⟨c, A, -⟩ := H; exact A.lt
theorem Holds.ext (E : Ext h h') (H : Holds Z a0 h a D) : Holds Z a0 h' a D := by
  rcases D with ⟨C, fs⟩ | ⟨ty, vs⟩
  · exact ⟨H.1.ext E, fun f hf => ⟨(H.2.1 f hf).1.ext E, (H.2.1 f hf).2⟩, H.2.2⟩
  · obtain ⟨c, A, r⟩ := H; exact ⟨c, A.ext E, r⟩
theorem Holds.other (W : Wr h h' a sl v) (H : Holds Z a0 h b D) (q : b ≠ a) : Holds Z a0 h' b D := by
  rcases D with ⟨C, fs⟩ | ⟨ty, vs⟩
  · exact ⟨H.1.wr W, fun f hf => ⟨(H.2.1 f hf).1.other W (Or.inl q), (H.2.1 f hf).2⟩, H.2.2⟩
  · obtain ⟨c, A, r⟩ := H; exact ⟨c, A.other W q, r⟩
theorem Holds.frame {as : List Addr} (K : ∀ (x : Addr) (c : Cell), h[x]? = some c → x ∉ as → h'[x]? = some c) (q : a ∉ as) (H : Holds Z a0 h a D) : Holds Z a0 h' a D := by
  rcases D with ⟨C, fs⟩ | ⟨ty, vs⟩
  · obtain ⟨⟨cell, k, h1, r⟩, F, nd⟩ := H
    refine ⟨⟨cell, k, K _ _ h1 q, r⟩, fun f hf => ?_, nd⟩
    obtain ⟨⟨cell, cf, k, i, f', g1, g⟩, L⟩ := F f hf
    exact ⟨⟨cell, cf, k, i, f', K _ _ g1 q, g⟩, L⟩
  · obtain ⟨c, A, r⟩ := H; exact ⟨c, ⟨K _ _ A.1 q, A.2⟩, r⟩
theorem Ext.refl (h : Heap) : Ext h h := ⟨Nat.le_refl _, fun _ _ q => q⟩
theorem Ext.trans {h1 h2 h3 : Heap} (E : Ext h1 h2) (F : Ext h2 h3) : Ext h1 h3 := ⟨Nat.le_trans E.1 F.1, fun x c q => F.2 x c (E.2 x c q)⟩
theorem Mo.start (Z : State) (a0 : Array Value) (h : Heap) : Mo Z a0 h [] h := ⟨Ext.refl h, fun _ q => (nomatch q), List.Pairwise.nil⟩
theorem Mo.ext (M : Mo Z a0 h0 ds h) (E : Ext h h') : Mo Z a0 h0 ds h' := ⟨Ext.trans M.1 E, fun q hq => ⟨(M.2.1 q hq).1, (M.2.1 q hq).2.ext E⟩, M.2.2⟩
theorem Mo.add (M : Mo Z a0 h0 ds h) (E : Ext h h') (H : Holds Z a0 h' h.size D) : Mo Z a0 h0 (ds ++ [(h.size, D)]) h' := by
  have M' := M.ext E
  refine ⟨M'.1, fun q hq => ?_, List.pairwise_append.mpr ⟨M.2.2, List.pairwise_singleton _ _, fun q hq r hr => ?_⟩⟩
  · rcases List.mem_append.mp hq with hq | hq
    · exact M'.2.1 q hq
    · cases List.mem_singleton.mp hq; exact ⟨Or.inl M.1.1, H⟩
  · cases List.mem_singleton.mp hr
    exact Nat.ne_of_lt (M.2.1 q hq).2.lt
theorem Mo.at (M : Mo Z a0 h0 ds h) (hi : ds[i]? = some (a, D)) : Holds Z a0 h a D := (M.2.1 _ (List.mem_of_getElem? hi)).2
theorem Mo.new (M : Mo Z a0 h0 ds h) (hi : ds[i]? = some (a, D)) (hn : ¬ Emp D) : h0.size ≤ a := (M.2.1 _ (List.mem_of_getElem? hi)).1.resolve_right hn
theorem nemp {ty : FieldType} {vs : List Value} {j : Nat} (hl : j < vs.length) : ¬ Emp (.inr (ty, vs)) := fun q => by rw [show vs = [] from q] at hl; cases hl
theorem Mo.ne (M : Mo Z a0 h0 ds h) {j : Nat} (hi : ds[i]? = some (a, D)) (hj : ds[j]? = some (b, D')) (q : i ≠ j) : a ≠ b := by
  obtain ⟨li, ei⟩ := List.getElem?_eq_some_iff.mp hi
  obtain ⟨lj, ej⟩ := List.getElem?_eq_some_iff.mp hj
  have P := List.pairwise_iff_getElem.mp M.2.2
  rcases Nat.lt_or_gt_of_ne q with q | q
  · have := P i j li lj q; rw [ei, ej] at this; exact this
  · have := P j i lj li q; rw [ei, ej] at this; exact this.symm
theorem Mo.exa {C : String} {fs : Fds} (hi : ds[i]? = some (a, .inl (C, fs))) : ∀ h, Mo Z a0 h0 ds h → Exa Z h a C := fun h M => (M.at hi).1
theorem Mo.wr (M : Mo Z a0 h0 ds h) (hi : ds[i]? = some (a, D)) (hn : ¬ Emp D) (W : Wr h h' a sl v) (H : Holds Z a0 h' a D') : Mo Z a0 h0 (ds.set i (a, D')) h' := by
  have n0 := M.new hi hn
  refine ⟨⟨by rw [W.size]; exact M.1.1, fun x c q => ?_⟩, fun q hq => ?_, ?_⟩
  · obtain ⟨c', e1, -, -, -, e5, -⟩ := wr_at W (M.1.2 x c q)
    rw [← e5 (Nat.ne_of_lt (Nat.lt_of_lt_of_le (Array.getElem?_eq_some_iff.mp q).1 n0))]; exact e1
  · obtain ⟨j, hj⟩ := List.getElem?_of_mem hq
    by_cases e : i = j
    · subst e
      rw [List.getElem?_set_self (List.getElem?_eq_some_iff.mp hi).1] at hj
      cases hj; exact ⟨Or.inl n0, H⟩
    · rw [List.getElem?_set_ne e] at hj
      exact ⟨(M.2.1 _ (List.mem_of_getElem? hj)).1, (M.at hj).other W (M.ne hj hi (Ne.symm e))⟩
  · refine List.pairwise_iff_getElem.mpr fun j j' l1 l2 q => ?_
    rw [List.length_set] at l1 l2
    have P := List.pairwise_iff_getElem.mp M.2.2 j j' l1 l2 q
    obtain ⟨li, ei⟩ := List.getElem?_eq_some_iff.mp hi
    rw [List.getElem_set, List.getElem_set]
    split
    · rename_i e; subst e
      rw [if_neg (Nat.ne_of_lt q)]
      rw [ei] at P; exact P
    · split
      · rename_i e; subst e; rw [ei] at P; exact P
      · exact P
/-- what has been touched since hs: of its cells at most those in 'as' -/
def Tr (hs : Heap) (as : List Addr) (ds : Mem) (h : Heap) : Prop :=
  hs.size ≤ h.size ∧ (∀ (x : Addr) (c : Cell), hs[x]? = some c → x ∉ as → h[x]? = some c) ∧ ∀ q ∈ ds, q.1 ∈ as ∨ hs.size ≤ q.1
theorem Tr.start (h : Heap) (ds : Mem) : Tr h (ds.map (·.1)) ds h := ⟨Nat.le_refl _, fun _ _ q _ => q, fun q hq => Or.inl (List.mem_map.mpr ⟨q, hq, rfl⟩)⟩
section Trs
variable {hs : Heap} {as : List Addr}
theorem Tr.ext (R : Tr hs as ds h) (E : Ext h h') : Tr hs as ds h' := ⟨Nat.le_trans R.1 E.1, fun x c q r => E.2 x c (R.2.1 x c q r), R.2.2⟩
theorem Tr.add (R : Tr hs as ds h) (E : Ext h h') : Tr hs as (ds ++ [(h.size, D)]) h' := ⟨Nat.le_trans R.1 E.1, fun x c q r => E.2 x c (R.2.1 x c q r), fun q hq => by
  rcases List.mem_append.mp hq with hq | hq
  · exact R.2.2 q hq
  · cases List.mem_singleton.mp hq; exact Or.inr R.1⟩
theorem Tr.out (R : Tr hs as ds h) {q : Addr × Desc} (hq : q ∈ ds) {x : Addr} {c : Cell} (hx : hs[x]? = some c) (hn : x ∉ as) : x ≠ q.1 := fun e => by
  rcases R.2.2 q hq with r | r
  · exact hn (e ▸ r)
  · exact absurd (Array.getElem?_eq_some_iff.mp hx).1 (Nat.not_lt.mpr (e ▸ r))
theorem Tr.wr (R : Tr hs as ds h) (hi : ds[i]? = some (a, D)) (W : Wr h h' a sl v) : Tr hs as (ds.set i (a, D')) h' := by
  refine ⟨by rw [W.size]; exact R.1, fun x c q r => ?_, fun q hq => ?_⟩
  · obtain ⟨c', e1, -, -, -, e5, -⟩ := wr_at W (R.2.1 x c q r)
    rw [← e5 (R.out (List.mem_of_getElem? hi) q r)]; exact e1
  · obtain ⟨j, hj⟩ := List.getElem?_of_mem hq
    by_cases e : i = j
    · subst e
      rw [List.getElem?_set_self (List.getElem?_eq_some_iff.mp hi).1] at hj
      cases hj; exact R.2.2 (a, D) (List.mem_of_getElem? hi)
    · rw [List.getElem?_set_ne e] at hj; exact R.2.2 _ (List.mem_of_getElem? hj)
theorem Tr.call {ds' : Mem} (R : Tr hs as ds h) (R' : Tr h (ds.map (·.1)) ds' h') : Tr hs as ds' h' := by
  refine ⟨Nat.le_trans R.1 R'.1, fun x c q r => R'.2.1 x c (R.2.1 x c q r) fun m => ?_, fun q hq => ?_⟩
  · obtain ⟨e, he, rfl⟩ := List.mem_map.mp m; exact R.out he q r rfl
  · rcases R'.2.2 q hq with m | m
    · obtain ⟨e, he, e2⟩ := List.mem_map.mp m; rw [← e2]; exact R.2.2 e he
    · exact Or.inr (Nat.le_trans R.1 m)
end Trs
end Facts
def LaidL (Z : State) (a0 : Array Value) (C : String) : Fds → Prop
  | [] => True
  | f :: r => (Laid Z a0 C f.1 f.2.1 f.2.2.1 ∧ ∃ ty, parseFieldDescriptor f.2.2.1 = some ty ∧ defaultValue ty = f.2.2.2) ∧ LaidL Z a0 C r
theorem LaidL.mem {Z : State} {a0 : Array Value} {C : String} : ∀ {fs : Fds}, LaidL Z a0 C fs → ∀ f ∈ fs, Laid Z a0 C f.1 f.2.1 f.2.2.1 ∧ ∃ ty, parseFieldDescriptor f.2.2.1 = some ty ∧ defaultValue ty = f.2.2.2
  | [], _, _, hf => (nomatch hf)
  | g :: r, H, f, hf => by
    rcases List.mem_cons.mp hf with rfl | hf
    · exact H.1
    · exact LaidL.mem H.2 f hf
theorem wd {ws : List Jvm.Cond} {a0 : Array Value} {Z : State} (hw : ∀ d ∈ ws, d.before a0 Z = true) (i : Nat) {d : Jvm.Cond} (h : ws[i]? = some d) : d.before a0 Z = true := hw d (List.mem_of_getElem? h)
def Cx (B : Bdy) (Z : State) (p : Program) (s : State) (m : MethodId) (meth : Method) (c : Code) : Prop :=
  p.tables.exec = Jvm.exec ∧ Z.Warmed39 s.vm ∧ c.code = B.2.1 ∧ c.maxLocals = B.2.2.1 ∧ s.vm.findClass B.1.cls = some m.cls ∧ meth.sig.returnType = B.2.2.2.1 ∧ meth.locks = false ∧ meth.name = B.1.name
def Ends (B : Bdy) (Z : State) (a0 : Array Value) (h0 : Heap) (hs : Heap) (as : List Addr) (Q : Option Value → Mem → Prop) (p : Program) (e : Env) (below : List Frame) (s u : State) : Prop :=
  ∃ s₂ v L ds, Steps p.tables e below u s₂ ∧ s₂.status = .running ∧ Ended s₂ below (.returned v) ∧ Mo Z a0 h0 ds s₂.heap ∧ Tr hs as ds s₂.heap ∧ Q v ds ∧ Fr h0.size L ∧ FrameEnd s (.returned v) s₂ L B.2.2.2.2.cells B.2.2.2.2.slots
def Go (B : Bdy) (Z : State) (a0 : Array Value) (h0 : Heap) (Q : Option Value → Mem → Prop) (k n : Nat) (ds : Mem) (pc : Nat) (ls : Array Slot) (st : List Value) : Prop :=
  ∀ (p : Program) (l : Launch) (e : Env) (s : State) (m : MethodId) (args : Array Value) (below : List Frame) (meth : Method) (c : Code) (T : State) (locs : List Loc) (hs : Heap) (as : List Addr),
    Cx B Z p s m meth c → Stand p l e B.2.2.2.2 s m args below meth c T locs k n → Fr h0.size locs → Mo Z a0 h0 ds T.heap → Tr hs as ds T.heap → Ends B Z a0 h0 hs as Q p e below s (T.setTop (mkF m pc ls st))
/-- a callee's answer: this value, this memory -/
def Ret (v0 : Option Value) (ds0 : Mem) (v : Option Value) (ds : Mem) : Prop := v = v0 ∧ ds0 = ds
/-- a yes or no, the memory as it was -/
def Qz (P : Prop) (ds0 : Mem) (v : Option Value) (ds : Mem) : Prop := ∃ z : Int32, v = some (.int z) ∧ ds0 = ds ∧ (z.toInt = 1 ∧ P ∨ z.toInt = 0 ∧ ¬ P)
def MQ (Z : State) (a0 : Array Value) (h0 h : Heap) (as : List Addr) (Q : Option Value → Mem → Prop) (v : Option Value) (h' : Heap) (L : List Loc) : Prop := Fr h0.size L ∧ ∃ ds', Mo Z a0 h0 ds' h' ∧ Tr h as ds' h' ∧ Q v ds'
def Met (B : Bdy) (Z : State) (a0 : Array Value) (h0 : Heap) (as : Array Value) (ds : Mem) (Q : Option Value → Mem → Prop) : Prop :=
  ∀ (l : Launch) (ws : List Jvm.Cond) (h : Heap), Mo Z a0 h0 ds h → MetFree l B.1 (head1 (Jvm.Cond.code B.1 B.2.1 B.2.2.1 B.2.2.2.1 :: ws) B.2.2.2.2) (fun a U => a = as ∧ Z.Warmed39 U.vm ∧ U.heap = h) (fun _ _ _ _ _ => True)
    (fun _ U o U' => ∃ v L, o = .returned v ∧ MQ Z a0 h0 h (ds.map (·.1)) Q v U'.heap L ∧ FrameEnd U o U' L B.2.2.2.2.cells B.2.2.2.2.slots)
section Start
variable {args : Array Value} {s : State} {t : Term}
theorem eqI_v {k : Int32} {idx : List Nat} (h : (Jvm.Cond.eq t (.int k)).value args s none s idx = some true) : t.eval args s none idx s = some (.int k) := by
  have e : (Term.int k).eval args s none idx s = some (.int k) := rfl
  simp only [Cond.value, e] at h
  cases ht : t.eval args s none idx s with
  | none => simp [ht] at h
  | some x => cases x <;> simp [ht] at h ⊢; exact h
theorem eqJ_v {k : Int64} {idx : List Nat} (h : (Jvm.Cond.eq t (.long k)).value args s none s idx = some true) : t.eval args s none idx s = some (.long k) := by
  have e : (Term.long k).eval args s none idx s = some (.long k) := rfl
  simp only [Cond.value, e] at h
  cases ht : t.eval args s none idx s with
  | none => simp [ht] at h
  | some x => cases x <;> simp [ht] at h ⊢; exact h
theorem elem_ix {a : Addr} {cl : Cell} {i : Nat} (ev : ∀ idx, t.eval args s none idx s = some (.ref a)) (ha : s.arrayAt? a = some cl) (hi : i < 2 ^ 31) : (Term.elem t (.index 0)).eval args s none [i] s = cl.slots[i]? := by
  have q : i.toInt32.toInt = i := len_toInt hi
  have q2 : i.toInt32.toNatClampNeg = i := by simp only [Int32.toNatClampNeg, q]; rfl
  rw [elem_f (ev _) (j := i.toInt32) rfl ha (by rw [Int32.lt_iff_toInt_lt, q]; exact Int.not_lt.mpr (Int.natCast_nonneg i)), q2]
theorem eq_ix {a : Addr} {cl : Cell} {i : Nat} {v : Int32} (ev : ∀ idx, t.eval args s none idx s = some (.ref a)) (ha : s.arrayAt? a = some cl) (hi : i < 2 ^ 31) (h : (Jvm.Cond.eq (.elem t (.index 0)) (.int v)).value args s none s [i] = some true) : cl.slots[i]? = some (.int v) :=
  (elem_ix ev ha hi).symm.trans (eqI_v h)
theorem or_ix {G X : Jvm.Cond} {P : Prop} [Decidable P] {i : Nat} (h : (Jvm.Cond.or G X).value args s none s [i] = some true) (hG : G.value args s none s [i] = some (decide P)) (hp : ¬ P) : X.value args s none s [i] = some true := by
  rwa [Cond.or_of_right (nay hG hp)] at h
theorem le_ix {i : Nat} {k : Int32} : (Jvm.Cond.le (.int k) (.index 0)).value args s none s [i] = some (decide (k ≤ i.toInt32)) := by simp [Cond.value, Term.eval]
theorem lt_ix {i : Nat} {k : Int32} : (Jvm.Cond.lt (.index 0) (.int k)).value args s none s [i] = some (decide (i.toInt32 < k)) := by simp [Cond.value, Term.eval]
theorem one_ix {a : Addr} {cl : Cell} {k v : Int32} {i : Nat} (ev : t.eval args s none [] s = some (.ref a)) (hc : s.heap[a]? = some cl) (hi : k.toNatClampNeg = i) (h : (Jvm.Cond.eq (.elem t (.int k)) (.int v)).value args s none s [] = some true) : cl.slots[i]? = some (.int v) := by
  have q := (elem_in (eqI_v h) ev rfl hc).2
  rwa [hi] at q
theorem oneJ_ix {a : Addr} {cl : Cell} {k : Int32} {v : Int64} {i : Nat} (ev : t.eval args s none [] s = some (.ref a)) (hc : s.heap[a]? = some cl) (hi : k.toNatClampNeg = i) (h : (Jvm.Cond.eq (.elem t (.int k)) (.long v)).value args s none s [] = some true) : cl.slots[i]? = some (.long v) := by
  have q := (elem_in (eqJ_v h) ev rfl hc).2
  rwa [hi] at q
theorem len_ix {a : Addr} {cl : Cell} {k : Int32} (ev : t.eval args s none [] s = some (.ref a)) (ha : s.arrayAt? a = some cl) (hk : ¬ k < 0) (h : (Jvm.Cond.eq (.length t) (.int k)).value args s none s [] = some true) : cl.slots.size = k.toNatClampNeg ∧ cl.slots.size < 2 ^ 31 := by
  have q := eqI_v h
  simp only [Term.eval, ev, ha, Option.bind_eq_bind, Option.bind_some] at q
  split at q
  · rename_i hl
    have e : cl.slots.size.toInt32 = k := by simpa using q
    have l : cl.slots.size < 2 ^ 31 := by simpa using hl
    refine ⟨?_, l⟩
    rw [← e]; simp only [Int32.toNatClampNeg, len_toInt l]; rfl
  · simp at q
end Start
theorem cat1 {v : Value} (h : v.isRef = true) : v.category = 1 := by rcases ref_cases h with rfl | ⟨x, rfl⟩ <;> rfl
theorem mvR {Z s : State} {a0 args : Array Value} {cls : String} {idx : Nat} {y : MethodName} (hZ : Z.Warmed39 s.vm) (hy : y.cls ≠ "java/lang/invoke/MethodHandle" ∧ y.cls ≠ "java/lang/invoke/VarHandle") (wi : (Jvm.Cond.instanceMethod y).before a0 Z = true) (w : (Jvm.Cond.methodRef cls idx y).before a0 Z = true) : (Jvm.Cond.methodRef cls idx y).before args s = true := by
  obtain ⟨obj, methO, hnO, -⟩ := Jvm.Cond.instanceMethod_spec wi
  have h := Jvm.Cond.methodRef_warmed39 hZ hnO hy w
  have e : (Jvm.Cond.methodRef cls idx y).before a0 (Z.setVm s.vm) = (Jvm.Cond.methodRef cls idx y).before args (s.setVm s.vm) := rfl
  exact e.symm.trans h
theorem initRefArgs {tb : Tables} [Ours tb] {e : Env} {below : List Frame} {s U : State} {mm : MethodId} {cc : Code} (h : At U mm cc below) (hexec : tb.exec = Jvm.exec) (hW : s.WarmedH U.vm)
    {own : String} (hown : s.vm.findClass own = some mm.cls) {idx : Nat} {t : MethodName} (ht1 : t.name = "<init>")
    (hnot : t.cls ≠ "java/lang/invoke/MethodHandle" ∧ t.cls ≠ "java/lang/invoke/VarHandle") {args : Array Value} {bytes : ByteArray} {maxL : Nat}
    (href : (Jvm.Cond.methodRef own idx t).before args s = true) (hinst : (Jvm.Cond.instanceMethod t).before args s = true) (hcode : (Jvm.Cond.code t bytes maxL none).before args s = true)
    {f : JFrame} (hf : f.method = mm) {a : Addr} {argsL rest : List Value} (hlen : ∀ sig, parseMethodDescriptor t.desc = some sig → argsL.length = sig.parameters.length) (hstack : f.stack = argsL.reverse ++ .ref a :: rest) (hd : decode cc.code f.pc = .ok (.invokespecial idx, 3)) :
    ∃ tm, s.methodNamed? t = some tm ∧ ∀ target, (∀ acts, Steps tb e below (doInvoke e (U.setTop { f with stack := rest }) acts tm (.ref a :: argsL).toArray).1 target) → Steps tb e below (U.setTop f) target := by
  subst hf
  obtain ⟨obj, methO, hnO, hmO, hstO, habO⟩ := Jvm.Cond.instanceMethod_spec hinst
  obtain ⟨methO', cO, hmO', hcO, hbO, hlO, -, hlockO, -, hsigO⟩ := Jvm.Cond.code_spec hnO hcode
  cases hmO.symm.trans hmO'
  obtain ⟨kO, hkO, hnameO⟩ := className_of_methodNamed hnO
  obtain ⟨hnameMO, hdescO⟩ := name_of_methodNamed hnO hmO
  have hr2 := Jvm.Cond.methodRef_warmed hW hnO hnot href
  have hown2 : (s.setVm U.vm).vm.findClass own = some f.method.cls := by show U.vm.findClass own = _; rw [hW.alike.findClass]; exact hown
  obtain ⟨m2, c2, hf2, hready, hfind2, hnamed⟩ := Jvm.Cond.methodRef_named e hown2 hr2
  have hf3 : (s.setVm U.vm).methodFound? t.cls t.name t.desc = s.methodFound? t.cls t.name t.desc := State.methodFound?_setVm_of_named hW.alike hnO hnot
  cases ((State.methodFound?_of_named hnO hnot).symm.trans hf3.symm).trans hf2
  have hc2 : c2 = obj.cls := by
    have q : U.vm.findClass t.cls = some c2 := hfind2
    rw [hW.alike.findClass, findClass_of_methodNamed hnO] at q
    exact (Option.some.inj q).symm
  subst hc2
  obtain ⟨kO₂, hkO₂, heO₂⟩ := hW.alike.2.2 _ _ hkO
  have hmO₂ : U.vm.method? obj = some methO := by rw [hW.alike.method?]; exact hmO
  have hfound : lookupSpecial U.vm obj.cls "<init>" methO.desc = .method obj := by
    rw [hW.alike.lookupSpecial, hdescO, ← ht1]; exact lookupSpecial_of_named hnO hmO hstO
  refine ⟨obj, hnO, fun target hrest => ?_⟩
  jvm_step h [hexec, hd, 
    invokespecial.wp_init (e := e) (s := U) (k := kO₂) (meth := methO) (m := obj) (a := a) (args := argsL) (rest := rest) (f := f)
      h.top hnamed hready hkO₂ hmO₂ (by rw [hnameMO]; exact ht1) hstO habO hfound (hlen _ hsigO) hstack]
  exact hrest
theorem specialBackR {p : Program} {l : Launch} {e : Env} {R : Room} {s : State} {m : MethodId} {args : Array Value} {below : List Frame} {meth : Method} {c : Code} {T : State} {locs : List Loc} {cells slots : Nat} (X : Stand p l e R s m args below meth c T locs cells slots) (hexec : p.tables.exec = Jvm.exec) {own : String} {index : Nat} {y : MethodName} (hy1 : y.name = "<init>")
    (hown : s.vm.findClass own = some m.cls) (hlink : (Jvm.Cond.methodRef own index y).before args s = true) (hinst : (Jvm.Cond.instanceMethod y).before args s = true)
    {bytes : ByteArray} {maxL : Nat} (hcode : (Jvm.Cond.code y bytes maxL none).before args s = true)
    (hy : y.cls ≠ "java/lang/invoke/MethodHandle" ∧ y.cls ≠ "java/lang/invoke/VarHandle")
    {W : Nat} {Pre : Pt → Array Value → Prop} {Post : Pt → Array Value → Option Value → Pt → Prop} (hK : Back l R p e below s args y 3 W Pre Post)
    {g : JFrame} (hg : g.method = m) (hsize : g.locals.size = c.maxLocals) {s₀ : State} (hcome : Steps p.tables e below s₀ (T.setTop g)) {a : Addr} {argsL rest : List Value}
    (hlen : ∀ sig, parseMethodDescriptor y.desc = some sig → argsL.length = sig.parameters.length) (hstack : g.stack = argsL.reverse ++ .ref a :: rest) (hW : 2 * g.monitorRoom + (rest.map fun v => v.category).sum ≤ W)
    (hdg : decode c.code g.pc = .ok (.invokespecial index, 3)) (hpre : ∀ vm₁, s.WarmedH vm₁ → Pre ⟨T.setVm vm₁, locs, cells, slots⟩ (.ref a :: argsL).toArray) :
    ∃ (v : Option Value) (vm₁ : Vm) (B : Pt), s.WarmedH vm₁ ∧ Stand p l e R s m args below meth c B.U B.locs B.cells B.slots ∧ Post ⟨T.setVm vm₁, locs, cells, slots⟩ (.ref a :: argsL).toArray v B ∧
      Steps p.tables e below s₀ (B.U.setTop { g with pc := g.pc + 3, stack := v.toList ++ rest }) := by
  obtain ⟨mk, hnamed, hstep₁⟩ := initRefArgs (e := e) X.here hexec X.warmed hown hy1 hy hlink hinst hcode (f := g) hg hlen hstack hdg
  obtain ⟨v, B, X', hpost, hsteps⟩ := hK m meth c ⟨T.setVm T.vm, locs, cells, slots⟩ { g with stack := rest } (.invokespecial index) mk (.ref a :: argsL).toArray X hg hsize hdg hW (X.named hnamed) (hpre T.vm X.warmed)
  exact ⟨v, T.vm, B, X.warmed, X', hpost, (hcome.trans (hstep₁ _ fun acts => by rw [doInvoke_state]; exact Steps.refl _)).trans hsteps⟩
section Core
variable {B : Bdy} {Z : State} {a0 : Array Value} {h0 : Heap} {Q : Option Value → Mem → Prop} {k n : Nat} {ds : Mem} {pc : Nat} {ls : Array Slot} {st : List Value}
theorem Ends.back {hs : Heap} {as : List Addr} {p : Program} {e : Env} {below : List Frame} {s u u' : State} (F : Ends B Z a0 h0 hs as Q p e below s u') (hst : ∀ t, Steps p.tables e below u' t → Steps p.tables e below u t) : Ends B Z a0 h0 hs as Q p e below s u := by
  obtain ⟨s₂, v, L, ds, h1, r⟩ := F; exact ⟨s₂, v, L, ds, hst _ h1, r⟩
theorem Go.step {pc' : Nat} {ls' : Array Slot} {st' : List Value} (H : Go B Z a0 h0 Q k n ds pc' ls' st')
    (hs : ∀ {p : Program} {l : Launch} {e : Env} {s : State} {m : MethodId} {args : Array Value} {below : List Frame} {meth : Method} {c : Code} {T : State} {locs : List Loc}, Cx B Z p s m meth c → Stand p l e B.2.2.2.2 s m args below meth c T locs k n → Mo Z a0 h0 ds T.heap → ∀ t, Steps p.tables e below (T.setTop (mkF m pc' ls' st')) t → Steps p.tables e below (T.setTop (mkF m pc ls st)) t) :
    Go B Z a0 h0 Q k n ds pc ls st := fun p l e s m args below meth c T locs h1 as C X N M R => (H p l e s m args below meth c T locs h1 as C X N M R).back (hs C X M)
theorem Go.mono {Q' : Option Value → Mem → Prop} (H : Go B Z a0 h0 Q k n ds pc ls st) (hq : ∀ v ds', Q v ds' → Q' v ds') : Go B Z a0 h0 Q' k n ds pc ls st := fun p l e s m args below meth c T locs hs as C X N M R => by
  obtain ⟨s₂, v, L, ds', h1, h2, h3, h4, h4', h5, r⟩ := H p l e s m args below meth c T locs hs as C X N M R
  exact ⟨s₂, v, L, ds', h1, h2, h3, h4, h4', hq _ _ h5, r⟩
/-- what holds of every heap that the memory describes may be used -/
theorem Go.know {P : Prop} (hP : ∀ h, Mo Z a0 h0 ds h → P) (H : P → Go B Z a0 h0 Q k n ds pc ls st) : Go B Z a0 h0 Q k n ds pc ls st := fun p l e s m args below meth c T locs hs as C X N M R => H (hP _ M) p l e s m args below meth c T locs hs as C X N M R
theorem Go.more {k' n' : Nat} (H : Go B Z a0 h0 Q k' n' ds pc ls st) (hk : k ≤ k') (hn : n ≤ n') : Go B Z a0 h0 Q k n ds pc ls st := fun p l e s m args below meth c T locs hs as C X N M R => H p l e s m args below meth c T locs hs as C (X.more hk hn) N M R
theorem Go.sub {ds' : Mem} (hs : List.Sublist ds' ds) (H : Go B Z a0 h0 Q k n ds' pc ls st) : Go B Z a0 h0 Q k n ds pc ls st := fun p l e s m args below meth c T locs h1 as C X N M R =>
  H p l e s m args below meth c T locs h1 as C X N ⟨M.1, fun q hq => M.2.1 q (hs.subset hq), M.2.2.sublist hs⟩ ⟨R.1, R.2.1, fun q hq => R.2.2 q (hs.subset hq)⟩
theorem Mo.perm {ds' : Mem} {h : Heap} (hp : List.Perm ds' ds) (M : Mo Z a0 h0 ds h) : Mo Z a0 h0 ds' h := ⟨M.1, fun q hq => M.2.1 q (hp.mem_iff.mp hq), (hp.pairwise_iff (fun {a b} q => Ne.symm q)).mpr M.2.2⟩
theorem Go.perm {ds' : Mem} (hp : List.Perm ds' ds) (H : Go B Z a0 h0 Q k n ds' pc ls st) : Go B Z a0 h0 Q k n ds pc ls st := fun p l e s m args below meth c T locs hs as C X N M R =>
  H p l e s m args below meth c T locs hs as C X N (M.perm hp) ⟨R.1, R.2.1, fun q hq => R.2.2 q (hp.mem_iff.mp hq)⟩
/-- entry i to the front -/
theorem Go.front (i : Nat) (hi : i < ds.length) (H : Go B Z a0 h0 Q k n (ds[i] :: ds.eraseIdx i) pc ls st) : Go B Z a0 h0 Q k n ds pc ls st := Go.perm (by
  have e : ds = ds.take i ++ ds[i] :: ds.drop (i + 1) := by rw [List.getElem_cons_drop, List.take_append_drop]
  rw [List.eraseIdx_eq_take_drop_succ]
  exact (List.perm_middle.symm).trans (by rw [← e])) H
theorem Met.of {as : Array Value} (hp : plainFor B.1 = true) (he : ∀ m, entryFrame m as B.2.2.1 = mkF m 0 ls []) (H : Go B Z a0 h0 Q 0 0 ds 0 ls []) : Met B Z a0 h0 as ds Q := by
  intro l ws h M
  refine MetFree.of_bodySF hp hisR ?_
  intro p e s m args below meth c s₁ Bd hml hP _
  obtain ⟨rfl, hZ, hh⟩ := hP
  have hown : s.vm.findClass B.1.cls = some m.cls := findClass_of_methodNamed Bd.named
  have hnm := (name_of_methodNamed Bd.named Bd.method).1
  have e0 : s₁.heap = h := by rw [← hh, Bd.state]; rfl
  obtain ⟨s₂, v, L, ds', h1, h2, h3, h4, h4', h5, h6, h7⟩ := H p l e s m args below meth c s₁ [] h (ds.map (·.1)) ⟨Bd.exec, hZ, Bd.bytes, hml, hown, Bd.returns, Bd.notSynchronized, hnm⟩ (Stand.of_body Bd) (Fr.nil _) (by rw [e0]; exact M) (by rw [e0]; exact Tr.start h ds)
  exact ⟨s₂, _, castTop (he m) h1, h2, h3, v, L, rfl, ⟨h6, ds', h4, h4', h5⟩, h7⟩
theorem Met.mono {as : Array Value} {Q' : Option Value → Mem → Prop} (H : Met B Z a0 h0 as ds Q) (hq : ∀ v ds', Q v ds' → Q' v ds') : Met B Z a0 h0 as ds Q' := by
  intro l ws h M p e h1 h2 h3 s m args below h4 h5 h6 h7
  obtain ⟨n, o, g1, g2, g3, v, L, g4, ⟨g5, ds', g6, g6', g7⟩, g8⟩ := H l ws h M p e h1 h2 h3 s m args below h4 h5 h6 h7
  exact ⟨n, o, g1, g2, g3, v, L, g4, ⟨g5, ds', g6, g6', hq _ _ g7⟩, g8⟩
/-- the frame rule: what the callee doesn't know it leaves as it is -/
theorem Met.frame {as : Array Value} (rest : Mem) (H : Met B Z a0 h0 as ds Q) : Met B Z a0 h0 as (ds ++ rest) (fun v D => ∃ ds', Q v ds' ∧ D = ds' ++ rest) := by
  intro l ws h M p e h1 h2 h3 s m args below h4 h5 h6 h7
  have M1 : Mo Z a0 h0 ds h := ⟨M.1, fun q hq => M.2.1 q (List.mem_append_left _ hq), (List.pairwise_append.mp M.2.2).1⟩
  obtain ⟨n, o, g1, g2, g3, v, L, g4, ⟨g5, ds', g6, g6', g7⟩, g8⟩ := H l ws h M1 p e h1 h2 h3 s m args below h4 h5 h6 h7
  have nin : ∀ q ∈ rest, q.1 ∉ ds.map (·.1) := fun q hq m => by
    obtain ⟨r, hr, e⟩ := List.mem_map.mp m
    exact (List.pairwise_append.mp M.2.2).2.2 r hr q hq e
  refine ⟨n, o, g1, g2, g3, v, L, g4, ⟨g5, ds' ++ rest, ⟨g6.1, fun q hq => ?_, List.pairwise_append.mpr ⟨g6.2.2, (List.pairwise_append.mp M.2.2).2.1, fun q hq r hr => ?_⟩⟩, ⟨g6'.1, fun x c q r => g6'.2.1 x c q fun m => r ?_, fun q hq => ?_⟩, ds', g7, rfl⟩, g8⟩
  · rcases List.mem_append.mp hq with hq | hq
    · exact g6.2.1 q hq
    · obtain ⟨m1, m2⟩ := M.2.1 q (List.mem_append_right _ hq)
      exact ⟨m1, m2.frame g6'.2.1 (nin q hq)⟩
  · intro e
    rcases g6'.2.2 q hq with m | m
    · exact nin r hr (e ▸ m)
    · exact absurd (M.2.1 r (List.mem_append_right _ hr)).2.lt (Nat.not_lt.mpr (e ▸ m))
  · rw [List.map_append]; exact List.mem_append_left _ m
  · rcases List.mem_append.mp hq with hq | hq
    · rcases g6'.2.2 q hq with m | m
      · exact Or.inl (by rw [List.map_append]; exact List.mem_append_left _ m)
      · exact Or.inr m
    · exact Or.inl (List.mem_map.mpr ⟨q, List.mem_append_right _ hq, rfl⟩)
theorem Met.know {as : Array Value} {P : Prop} (hP : ∀ h, Mo Z a0 h0 ds h → P) (H : P → Met B Z a0 h0 as ds Q) : Met B Z a0 h0 as ds Q := fun l ws h M => H (hP h M) l ws h M
/-! the returns -/
theorem go_end {v : Option Value} (hk : k ≤ B.2.2.2.2.cells) (hn : n ≤ B.2.2.2.2.slots) (hv : B.2.2.2.1 = none → v = none) (HQ : Q v ds)
    (hs : ∀ {p : Program} {l : Launch} {e : Env} {s : State} {m : MethodId} {args : Array Value} {below : List Frame} {meth : Method} {c : Code} {T : State} {locs : List Loc}, Cx B Z p s m meth c → Stand p l e B.2.2.2.2 s m args below meth c T locs k n → ∀ {fs : List Frame}, (∀ (f : JFrame) (acts : List Action), f.method = m → f.locked = none → f.entered = [] → (doReturn e (T.setTop f) acts v).1 = T.setFrames fs) → Steps p.tables e below (T.setTop (mkF m pc ls st)) (T.setFrames fs)) :
    Go B Z a0 h0 Q k n ds pc ls st := by
  intro p l e s m args below meth c T locs h1 as C X N M R
  obtain ⟨fs, hr, hrun, hended, hW, hsame⟩ := X.leave (v := v) (fun q => hv (C.2.2.2.2.2.1.symm.trans q)) C.2.2.2.2.2.2.1
  exact ⟨_, v, locs, ds, hs C X hr, hrun, hended, M, R, HQ, N, ⟨_, rfl⟩, hW, hsame.mono hk hn⟩
theorem go_return (hd : decode B.2.1 pc = .ok (.return_, 1)) (hret : B.2.2.2.1 = none) (hst : st = []) (hk : k ≤ B.2.2.2.2.cells) (hn : n ≤ B.2.2.2.2.slots) (HQ : Q none ds) : Go B Z a0 h0 Q k n ds pc ls st := by
  subst hst
  exact go_end hk hn (fun _ => rfl) HQ fun C X _ hr => X.returnOut C.1 (C.2.2.2.2.2.1.trans hret) (hb C.2.2.1 hd) hr
theorem go_ireturn {z : Int32} {rest : List Value} {t : FieldType} (hd : decode B.2.1 pc = .ok (.ireturn, 1)) (hret : B.2.2.2.1 = some t) (ht : t = .int ∨ t = .boolean ∨ t = .byte ∨ t = .char ∨ t = .short) (hst : st = .int z :: rest) (hz : narrow t (.int z) = .int z) (hk : k ≤ B.2.2.2.2.cells) (hn : n ≤ B.2.2.2.2.slots) (HQ : Q (some (.int z)) ds) : Go B Z a0 h0 Q k n ds pc ls st := by
  subst hst
  exact go_end hk hn (fun q => by rw [hret] at q; cases q) HQ fun C X _ hr => retOut X C.1 (C.2.2.2.2.2.1.trans hret) hz (Or.inl ⟨rfl, ht, _, rfl⟩) (hb C.2.2.1 hd) hr
/-! branches -/
def cmpP : ClassFile.Cond → Int32 → Int32 → Prop
  | .eq, x, y => x.toInt = y.toInt
  | .ne, x, y => x.toInt ≠ y.toInt
  | .lt, x, y => x.toInt < y.toInt
  | .ge, x, y => y.toInt ≤ x.toInt
  | .gt, x, y => y.toInt < x.toInt
  | .le, x, y => x.toInt ≤ y.toInt
def cmpZ : ClassFile.Cond → Int32 → Prop
  | .eq, x => x.toInt = 0
  | .ne, x => x.toInt ≠ 0
  | .lt, x => x.toInt < 0
  | .ge, x => 0 ≤ x.toInt
  | .gt, x => 0 < x.toInt
  | .le, x => x.toInt ≤ 0
theorem cmpP_iff (cd : ClassFile.Cond) (x y : Int32) : if_icmp.holds cd x y = true ↔ cmpP cd x y := by
  cases cd <;> simp [if_icmp.holds, cmpP, Int32.lt_iff_toInt_lt, Int32.le_iff_toInt_le, Int32.toInt_inj]
theorem cmpZ_iff (cd : ClassFile.Cond) (x : Int32) : ifCond.holds cd x = true ↔ cmpZ cd x := by
  have h0 : (0 : Int32).toInt = 0 := rfl
  cases cd <;> simp only [ifCond.holds, cmpZ, Int32.lt_iff_toInt_lt, Int32.le_iff_toInt_le, ← Int32.toInt_inj, h0, decide_eq_true_eq, beq_iff_eq, bne_iff_ne, ne_eq, gt_iff_lt, ge_iff_le]
theorem go_if {cd : ClassFile.Cond} {x : Int32} {rest : List Value} {o : Int} (q1 q2 : Nat) (hp : pc + 3 = q2) (ho : 0 ≤ (pc : Int) + o) (hq : ((pc : Int) + o).toNat = q1) (hd : decode B.2.1 pc = .ok (.ifCond cd o, 3)) (hst : st = .int x :: rest)
    (H1 : cmpZ cd x → Go B Z a0 h0 Q k n ds q1 ls rest) (H2 : ¬ cmpZ cd x → Go B Z a0 h0 Q k n ds q2 ls rest) : Go B Z a0 h0 Q k n ds pc ls st := by
  subst hst hp
  cases hc : ifCond.holds cd x
  · exact (H2 fun q => by rw [(cmpZ_iff cd x).mpr q] at hc; cases hc).step fun C X _ t hr => XS.ifNo X.here C.1 rfl (hb C.2.2.1 hd) rfl hc hr
  · exact (H1 ((cmpZ_iff cd x).mp hc)).step fun C X _ t hr => XS.ifYes X.here C.1 rfl rfl (hb C.2.2.1 hd) rfl hc ho hq hr
theorem go_icmp {cd : ClassFile.Cond} {x y : Int32} {rest : List Value} {o : Int} (q1 q2 : Nat) (hp : pc + 3 = q2) (ho : 0 ≤ (pc : Int) + o) (hq : ((pc : Int) + o).toNat = q1) (hd : decode B.2.1 pc = .ok (.if_icmp cd o, 3)) (hst : st = .int y :: .int x :: rest)
    (H1 : cmpP cd x y → Go B Z a0 h0 Q k n ds q1 ls rest) (H2 : ¬ cmpP cd x y → Go B Z a0 h0 Q k n ds q2 ls rest) : Go B Z a0 h0 Q k n ds pc ls st := by
  subst hst hp
  cases hc : if_icmp.holds cd x y
  · exact (H2 fun q => by rw [(cmpP_iff cd x y).mpr q] at hc; cases hc).step fun C X _ t hr => XS.icmpNo X.here C.1 rfl (hb C.2.2.1 hd) rfl hc hr
  · exact (H1 ((cmpP_iff cd x y).mp hc)).step fun C X _ t hr => XS.icmpYes X.here C.1 rfl rfl (hb C.2.2.1 hd) rfl hc ho hq hr
def acP : ACond → Value → Value → Prop
  | .eq, x, y => x = y
  | .ne, x, y => x ≠ y
theorem acP_iff (cd : ACond) (x y : Value) : acV cd (decide (x = y)) = true ↔ acP cd x y := by cases cd <;> simp [acV, acP]
theorem go_goto {o : Int} (q : Nat) (ho : 0 ≤ (pc : Int) + o) (hq : ((pc : Int) + o).toNat = q) (hd : decode B.2.1 pc = .ok (.goto o, 3)) (H : Go B Z a0 h0 Q k n ds q ls st) : Go B Z a0 h0 Q k n ds pc ls st :=
  H.step fun C X _ t hr => XS.goto X.here C.1 rfl rfl (hb C.2.2.1 hd) ho hq hr
/-! constants of the pool -/
theorem go_ldc {idx : Nat} {v : Int32} (q : Nat) (hp : pc + 2 = q) (hd : decode B.2.1 pc = .ok (.ldc idx, 2)) (w : (Jvm.Cond.constant B.1.cls idx v).before a0 Z = true) (H : Go B Z a0 h0 Q k n ds q ls (.int v :: st)) : Go B Z a0 h0 Q k n ds pc ls st := by
  subst hp; exact H.step fun C X _ t hr => X.ldcInt C.1 C.2.2.2.2.1 (mvT C.2.1 w) (g := mkF _ pc ls st) rfl (hb C.2.2.1 hd) t hr
theorem go_ldc2 {idx : Nat} {v : Int64} (q : Nat) (hp : pc + 3 = q) (hd : decode B.2.1 pc = .ok (.ldc2_w idx, 3)) (w : (Jvm.Cond.constantLong B.1.cls idx v).before a0 Z = true) (H : Go B Z a0 h0 Q k n ds q ls (.long v :: st)) : Go B Z a0 h0 Q k n ds pc ls st := by
  subst hp; exact H.step fun C X _ t hr => X.ldc2Long C.1 C.2.2.2.2.1 (mvT C.2.1 w) (g := mkF _ pc ls st) rfl (hb C.2.2.1 hd) t hr
/-! the heap -/
theorem go_new {C : String} {idx sz : Nat} (q : Nat) (hp : pc + 3 = q) (hd : decode B.2.1 pc = .ok (.new idx, 3)) (w : (Jvm.Cond.classLink B.1.cls idx C).before a0 Z = true) (wi : (Jvm.Cond.instantiable C sz).before a0 Z = true) (wz : (Jvm.Cond.initialized C).before a0 Z = true)
    (hk : k + 1 ≤ B.2.2.2.2.cells) (hn : n + sz ≤ B.2.2.2.2.slots) (fs : Fds) (hfs : LaidL Z a0 C fs) (hnd : (fs.map (·.2.1)).Nodup) (H : ∀ a, Go B Z a0 h0 Q (k + 1) (n + sz) (ds ++ [ob a C fs]) q ls (.ref a :: st)) : Go B Z a0 h0 Q k n ds pc ls st := by
  subst hp
  intro p l e s m args below meth c T locs hs as Cc X N M R
  obtain ⟨T', h', X', e', E', A', D', -, st'⟩ := newO X Cc.1 Cc.2.1 Cc.2.2.2.2.1 w wi wz rfl (g := mkF m pc ls st) rfl (hb Cc.2.2.1 hd) hk hn
  refine (H T.heap.size p l e s m args below meth c T' locs hs as Cc X' N ?_ (by rw [e']; exact R.add E')).back st'
  rw [e']
  refine M.add E' ⟨A', fun f hf => ?_, hnd⟩
  obtain ⟨L, ty, h1, h2⟩ := hfs.mem f hf
  exact ⟨h2 ▸ D' L h1, L, ty, h1⟩
theorem go_newarr {aty : ArrayType} {x : Int32} {rest : List Value} (q : Nat) (hp : pc + 2 = q) (hd : decode B.2.1 pc = .ok (.newarray aty, 2)) (hst : st = .int x :: rest) (w : (Jvm.Cond.arrayClass (newarray.typeOf aty)).before a0 Z = true) (hx : ¬ x < 0) (cap : Nat) (hcap : x.toNatClampNeg ≤ cap) (hbb : cap * 8 ≤ 536870912)
    (hk : k + 1 ≤ B.2.2.2.2.cells) (hn : n + cap ≤ B.2.2.2.2.slots) (H : ∀ a, Go B Z a0 h0 Q (k + 1) (n + cap) (ds ++ [ar a (newarray.typeOf aty) (List.replicate x.toNatClampNeg (defaultValue (newarray.typeOf aty)))]) q ls (.ref a :: rest)) : Go B Z a0 h0 Q k n ds pc ls st := by
  subst hp hst
  intro p l e s m args below meth c T locs hs as Cc X N M R
  obtain ⟨T', h', cA, X', e', E', A', st'⟩ := newP X Cc.1 Cc.2.1 w rfl (g := mkF m pc ls (.int x :: rest)) rfl (hb Cc.2.2.1 hd) rfl hx hcap hbb hk hn
  refine (H T.heap.size p l e s m args below meth c T' locs hs as Cc X' N ?_ (by rw [e']; exact R.add E')).back st'
  rw [e']
  exact M.add E' ⟨_, A', by simp [newA], fun C q => by cases aty <;> cases q⟩
theorem go_getG {a : Addr} {O R0 nm d : String} {v : Value} {idx : Nat} {rest : List Value} (q : Nat) (hp : pc + 3 = q) (hd : decode B.2.1 pc = .ok (.getfield idx, 3)) (hst : st = .ref a :: rest) (w : (Jvm.Cond.fieldLink B.1.cls idx R0 nm d).before a0 Z = true) (via : Via Z R0 O nm d) (hF : ∀ h, Mo Z a0 h0 ds h → Fld Z h a O nm d v)
    (H : Go B Z a0 h0 Q k n ds q ls (v :: rest)) : Go B Z a0 h0 Q k n ds pc ls st := by
  subst hp hst
  intro p l e s m args below meth c T locs hs as Cc X N M R
  obtain ⟨T', X', e', st'⟩ := getF X Cc.1 Cc.2.1 Cc.2.2.2.2.1 (host := "") (Or.inl w) via rfl (hF _ M) (g := mkF m pc ls (.ref a :: rest)) rfl rfl (hb Cc.2.2.1 hd)
  exact (H p l e s m args below meth c T' locs hs as Cc X' N (by rw [e']; exact M) (by rw [e']; exact R)).back st'
theorem go_get {a : Addr} {C O nm d : String} {fs : Fds} {v : Value} {idx : Nat} {rest : List Value} (i j q : Nat) (hp : pc + 3 = q) (hd : decode B.2.1 pc = .ok (.getfield idx, 3)) (hst : st = .ref a :: rest) (hi : ds[i]? = some (ob a C fs)) (hj : fs[j]? = some (O, nm, d, v)) (w : (Jvm.Cond.fieldLink B.1.cls idx O nm d).before a0 Z = true)
    (H : Go B Z a0 h0 Q k n ds q ls (v :: rest)) : Go B Z a0 h0 Q k n ds pc ls st :=
  go_getG q hp hd hst w Via.refl (fun h M => ((M.at hi).2.1 _ (List.mem_of_getElem? hj)).1) H
theorem go_put {a : Addr} {C O nm d : String} {fs : Fds} {v old : Value} {idx kk : Nat} {rest : List Value} {ty : FieldType} (i j q : Nat) (hp : pc + 3 = q) (hd : decode B.2.1 pc = .ok (.putfield idx, 3)) (hst : st = v :: .ref a :: rest) (hi : ds[i]? = some (ob a C fs)) (hj : fs[j]? = some (O, nm, d, old))
    (w : (Jvm.Cond.fieldLink B.1.cls idx O nm d).before a0 Z = true) (L : (Jvm.Cond.lays C O nm d).before a0 Z = true ∨ ((Jvm.Cond.laysFinal C O nm d).before a0 Z = true ∧ B.1.cls = O ∧ B.1.name = "<init>")) (wi : (Jvm.Cond.instantiable C kk).before a0 Z = true)
    (hty : parseFieldDescriptor d = some ty) (hnn : narrow ty v = v) (hf : fits ty v = true) (H : Go B Z a0 h0 Q k n (ds.set i (ob a C (fs.set j (O, nm, d, v)))) q ls rest) : Go B Z a0 h0 Q k n ds pc ls st := by
  subst hp hst
  intro p l e s m args below meth c T locs hs as Cc X N M R
  have HA := M.at hi
  obtain ⟨F, La, -⟩ := HA.2.1 _ (List.mem_of_getElem? hj)
  have hown : s.vm.findClass B.1.cls = some m.cls := Cc.2.2.2.2.1
  obtain ⟨T', h', X', e', W', st'⟩ := putF X Cc.1 Cc.2.1 hown (host := "") (Or.inl w) Via.refl rfl F HA.1 (L.imp id fun q => ⟨q.1, q.2.1, Cc.2.2.2.2.2.2.2.trans q.2.2⟩) wi hty hnn hf (g := mkF m pc ls (v :: .ref a :: rest)) rfl rfl (hb Cc.2.2.1 hd)
  refine (H p l e s m args below meth c T' _ hs as Cc X' (Fr.snoc X' N (M.new hi id)) ?_ (by rw [e']; exact R.wr hi W')).back st'
  rw [e']
  refine M.wr hi id W' ⟨HA.1.wr W', fun f hf => ?_, ?_⟩
  · obtain ⟨j', hj'⟩ := List.getElem?_of_mem hf
    by_cases e : j = j'
    · subst e
      rw [List.getElem?_set_self (List.getElem?_eq_some_iff.mp hj).1] at hj'
      cases hj'; exact ⟨F.same W', La, ty, hty⟩
    · rw [List.getElem?_set_ne e] at hj'
      obtain ⟨F1, L1, ty1, ht1⟩ := HA.2.1 f (List.mem_of_getElem? hj')
      refine ⟨F1.other W' (Or.inr (slot_ne L1 La (fun q => ?_) ht1 hty)), L1, ty1, ht1⟩
      have P := List.pairwise_iff_getElem.mp HA.2.2
      obtain ⟨l1, e1⟩ := List.getElem?_eq_some_iff.mp hj
      obtain ⟨l2, e2⟩ := List.getElem?_eq_some_iff.mp hj'
      rcases Nat.lt_or_gt_of_ne e with r | r
      · have z := P j j' (by simpa using l1) (by simpa using l2) r
        simp only [List.getElem_map, e1, e2] at z; exact z q.symm
      · have z := P j' j (by simpa using l2) (by simpa using l1) r
        simp only [List.getElem_map, e1, e2] at z; exact z q
  · rw [List.map_set]
    have : (fs.map (·.2.1)).set j nm = fs.map (·.2.1) := by
      apply List.ext_getElem?
      intro t
      by_cases e : j = t
      · subst e; rw [List.getElem?_set_self (by simpa using (List.getElem?_eq_some_iff.mp hj).1)]; simp [hj]
      · rw [List.getElem?_set_ne e]
    show ((fs.map (·.2.1)).set j nm).Nodup
    rw [this]; exact HA.2.2
/-! arrays -/
theorem Holds.arr {h : Heap} {a : Addr} {ty : FieldType} {vs : List Value} (H : Holds Z a0 h a (.inr (ty, vs))) : ∃ c : Cell, Arr Z h a c ty ∧ c.slots = vs.toArray ∧ (∀ C, ty = .object C → Ovr Z c.cls C) := by
  obtain ⟨c, A, e, r⟩ := H; exact ⟨c, A, by rw [← e], r⟩
theorem inb {c : Cell} {vs : List Value} {j : Int32} {v : Value} (e : c.slots = vs.toArray) (hj : ¬ j < 0) (hv : vs[j.toNatClampNeg]? = some v) : ¬ (j < 0 ∨ c.slots.size ≤ j.toNatClampNeg) ∧ c.slots[j.toNatClampNeg]? = some v := by
  have l1 := (List.getElem?_eq_some_iff.mp hv).1
  rw [e]; exact ⟨fun q => q.elim hj fun q => by simp at q; omega, by simpa using hv⟩
def El (Z : State) (h : Heap) (a : Addr) (ty : FieldType) (j : Int32) (v : Value) : Prop := ∃ c : Cell, Arr Z h a c ty ∧ ¬ (j < 0 ∨ c.slots.size ≤ j.toNatClampNeg) ∧ c.slots[j.toNatClampNeg]? = some v
theorem El.ext {h h' : Heap} {a : Addr} {ty : FieldType} {j : Int32} {v : Value} (E : Ext h h') (F : El Z h a ty j v) : El Z h' a ty j v := by obtain ⟨c, A, r⟩ := F; exact ⟨c, A.ext E, r⟩
theorem Mo.el {a : Addr} {ty : FieldType} {vs : List Value} {i : Nat} {j : Int32} {v : Value} (hi : ds[i]? = some (ar a ty vs)) (hj : ¬ j < 0) (hv : vs[j.toNatClampNeg]? = some v) : ∀ h, Mo Z a0 h0 ds h → El Z h a ty j v := fun h M => by
  obtain ⟨c, A, e, -⟩ := (M.at hi).arr; exact ⟨c, A, inb e hj hv⟩
theorem go_iaload {a : Addr} {j : Int32} {v : Value} {rest : List Value} (q : Nat) (hp : pc + 1 = q) (hd : decode B.2.1 pc = .ok (.iaload, 1)) (hst : st = .int j :: .ref a :: rest) (hA : ∀ h, Mo Z a0 h0 ds h → El Z h a .int j v) (H : Go B Z a0 h0 Q k n ds q ls (v :: rest)) : Go B Z a0 h0 Q k n ds pc ls st := by
  subst hp hst
  refine H.step fun C X M t hr => ?_
  obtain ⟨cl, A, h1, h2⟩ := hA _ M
  exact X.iaload C.1 A.1 (State.isArrayOf_alike C.2.1.alike A.2.1) A.2.2 h1 h2 (g := mkF _ pc ls (.int j :: .ref a :: rest)) rfl rfl (hb C.2.2.1 hd) t hr
theorem go_laload {a : Addr} {j : Int32} {v : Value} {rest : List Value} (q : Nat) (hp : pc + 1 = q) (hd : decode B.2.1 pc = .ok (.laload, 1)) (hst : st = .int j :: .ref a :: rest) (hA : ∀ h, Mo Z a0 h0 ds h → El Z h a .long j v) (H : Go B Z a0 h0 Q k n ds q ls (v :: rest)) : Go B Z a0 h0 Q k n ds pc ls st := by
  subst hp hst
  refine H.step fun C X M t hr => ?_
  obtain ⟨cl, A, h1, h2⟩ := hA _ M
  exact X.laload C.1 A.1 (State.isArrayOf_alike C.2.1.alike A.2.1) A.2.2 h1 h2 (g := mkF _ pc ls (.int j :: .ref a :: rest)) rfl rfl (hb C.2.2.1 hd) t hr
theorem go_zaload {a : Addr} {j : Int32} {v : Value} {rest : List Value} (q : Nat) (hp : pc + 1 = q) (hd : decode B.2.1 pc = .ok (.baload, 1)) (hst : st = .int j :: .ref a :: rest) (hA : ∀ h, Mo Z a0 h0 ds h → El Z h a .boolean j v) (H : Go B Z a0 h0 Q k n ds q ls (v :: rest)) : Go B Z a0 h0 Q k n ds pc ls st := by
  subst hp hst
  refine H.step fun C X M t hr => ?_
  obtain ⟨cl, A, h1, h2⟩ := hA _ M
  exact X.baloadBooleans C.1 A.1 (State.isArrayOf_alike C.2.1.alike A.2.1) A.2.2 h1 h2 (g := mkF _ pc ls (.int j :: .ref a :: rest)) rfl rfl (hb C.2.2.1 hd) t hr
theorem Holds.set {h h' : Heap} {a : Addr} {ty : FieldType} {vs : List Value} {c : Cell} {j : Int32} {v : Value} (A : Arr Z h a c ty) (e : c.slots = vs.toArray) (O : ∀ C, ty = .object C → Ovr Z c.cls C) (W : Wr h h' a j.toNatClampNeg v) : Holds Z a0 h' a (.inr (ty, vs.set j.toNatClampNeg v)) :=
  ⟨_, A.same W, by simp [Cell.setSlot, e], O⟩
theorem go_iastore {a : Addr} {j : Int32} {x : Int32} {vs rest : List Value} (i q : Nat) (hp : pc + 1 = q) (hd : decode B.2.1 pc = .ok (.iastore, 1)) (hst : st = .int x :: .int j :: .ref a :: rest) (hi : ds[i]? = some (ar a .int vs)) (hj : ¬ j < 0) (hl : j.toNatClampNeg < vs.length) (H : Go B Z a0 h0 Q k n (ds.set i (ar a .int (vs.set j.toNatClampNeg (.int x)))) q ls rest) : Go B Z a0 h0 Q k n ds pc ls st := by
  subst hp hst
  intro p l e s m args below meth c T locs hs as Cc X N M R
  obtain ⟨cl, A, ee, O⟩ := (M.at hi).arr
  obtain ⟨T', h', X', e', W', st'⟩ := stI X Cc.1 Cc.2.1 rfl A (inb ee hj (List.getElem?_eq_getElem hl)).1 (g := mkF m pc ls (.int x :: .int j :: .ref a :: rest)) rfl rfl (hb Cc.2.2.1 hd)
  refine (H p l e s m args below meth c T' _ hs as Cc X' (Fr.snoc X' N (M.new hi (nemp hl))) ?_ (by rw [e']; exact R.wr hi W')).back st'
  rw [e']; exact M.wr hi (nemp hl) W' (Holds.set A ee O W')
theorem go_lastore {a : Addr} {j : Int32} {x : Int64} {vs rest : List Value} (i q : Nat) (hp : pc + 1 = q) (hd : decode B.2.1 pc = .ok (.lastore, 1)) (hst : st = .long x :: .int j :: .ref a :: rest) (hi : ds[i]? = some (ar a .long vs)) (hj : ¬ j < 0) (hl : j.toNatClampNeg < vs.length) (H : Go B Z a0 h0 Q k n (ds.set i (ar a .long (vs.set j.toNatClampNeg (.long x)))) q ls rest) : Go B Z a0 h0 Q k n ds pc ls st := by
  subst hp hst
  intro p l e s m args below meth c T locs hs as Cc X N M R
  obtain ⟨cl, A, ee, O⟩ := (M.at hi).arr
  obtain ⟨T', h', X', e', W', st'⟩ := stJ X Cc.1 Cc.2.1 rfl A (inb ee hj (List.getElem?_eq_getElem hl)).1 (g := mkF m pc ls (.long x :: .int j :: .ref a :: rest)) rfl rfl (hb Cc.2.2.1 hd)
  refine (H p l e s m args below meth c T' _ hs as Cc X' (Fr.snoc X' N (M.new hi (nemp hl))) ?_ (by rw [e']; exact R.wr hi W')).back st'
  rw [e']; exact M.wr hi (nemp hl) W' (Holds.set A ee O W')
theorem go_zastore {a : Addr} {j : Int32} {x : Int32} {vs rest : List Value} (i q : Nat) (hp : pc + 1 = q) (hd : decode B.2.1 pc = .ok (.bastore, 1)) (hst : st = .int x :: .int j :: .ref a :: rest) (hi : ds[i]? = some (ar a .boolean vs)) (hj : ¬ j < 0) (hl : j.toNatClampNeg < vs.length) (H : Go B Z a0 h0 Q k n (ds.set i (ar a .boolean (vs.set j.toNatClampNeg (.int (nar .boolean x))))) q ls rest) : Go B Z a0 h0 Q k n ds pc ls st := by
  subst hp hst
  intro p l e s m args below meth c T locs hs as Cc X N M R
  obtain ⟨cl, A, ee, O⟩ := (M.at hi).arr
  obtain ⟨T', h', X', e', W', st'⟩ := stZ X Cc.1 Cc.2.1 rfl A (inb ee hj (List.getElem?_eq_getElem hl)).1 (g := mkF m pc ls (.int x :: .int j :: .ref a :: rest)) rfl rfl (hb Cc.2.2.1 hd)
  refine (H p l e s m args below meth c T' _ hs as Cc X' (Fr.snoc X' N (M.new hi (nemp hl))) ?_ (by rw [e']; exact R.wr hi W')).back st'
  rw [e']; exact M.wr hi (nemp hl) W' (Holds.set A ee O W')
theorem Mo.sto {a y : Addr} {C : String} {vs : List Value} {i : Nat} (hi : ds[i]? = some (ar a (.object C) vs)) (hI : ∀ h, Mo Z a0 h0 ds h → Ins Z h y C true) : ∀ h, Mo Z a0 h0 ds h → Sto Z h a (.ref y) := fun h M => by
  obtain ⟨c, A, -, O⟩ := (M.at hi).arr; exact Sto.of A (O C rfl) (hI h M)
/-! the plain steps -/
theorem go_iloadN {j : Fin 4} {v : Int32} (q : Nat) (hp : pc + 1 = q) (hd : decode B.2.1 pc = .ok (.iload_n j, 1)) (hl : ls[j.val]? = some (.val (.int v))) (H : Go B Z a0 h0 Q k n ds q ls (.int v :: st)) : Go B Z a0 h0 Q k n ds pc ls st := by
  subst hp; exact H.step fun C X _ t hr => XS.iloadN X.here C.1 rfl (hb C.2.2.1 hd) hl hr
theorem go_iload {j : Nat} {v : Int32} (q : Nat) (hp : pc + 2 = q) (hd : decode B.2.1 pc = .ok (.iload j, 2)) (hl : ls[j]? = some (.val (.int v))) (H : Go B Z a0 h0 Q k n ds q ls (.int v :: st)) : Go B Z a0 h0 Q k n ds pc ls st := by
  subst hp; exact H.step fun C X _ t hr => XS.iload X.here C.1 rfl (hb C.2.2.1 hd) hl hr
theorem go_istoreN {j : Fin 4} {x : Int32} {rest : List Value} (l' : Array Slot) (q : Nat) (hp : pc + 1 = q) (hd : decode B.2.1 pc = .ok (.istore_n j, 1)) (hst : st = .int x :: rest) (hl : storeLocals ls j.val (.int x) = some l') (H : Go B Z a0 h0 Q k n ds q l' (rest)) : Go B Z a0 h0 Q k n ds pc ls st := by
  subst hp hst; exact H.step fun C X _ t hr => XS.istoreN X.here C.1 rfl (hb C.2.2.1 hd) rfl hl hr
theorem go_istore {j : Nat} {x : Int32} {rest : List Value} (l' : Array Slot) (q : Nat) (hp : pc + 2 = q) (hd : decode B.2.1 pc = .ok (.istore j, 2)) (hst : st = .int x :: rest) (hl : storeLocals ls j (.int x) = some l') (H : Go B Z a0 h0 Q k n ds q l' (rest)) : Go B Z a0 h0 Q k n ds pc ls st := by
  subst hp hst; exact H.step fun C X _ t hr => XS.istore X.here C.1 rfl (hb C.2.2.1 hd) rfl hl hr
theorem go_lloadN {j : Fin 4} {v : Int64} (q : Nat) (hp : pc + 1 = q) (hd : decode B.2.1 pc = .ok (.lload_n j, 1)) (hl : ls[j.val]? = some (.val (.long v))) (H : Go B Z a0 h0 Q k n ds q ls (.long v :: st)) : Go B Z a0 h0 Q k n ds pc ls st := by
  subst hp; exact H.step fun C X _ t hr => XS.lloadN X.here C.1 rfl (hb C.2.2.1 hd) hl hr
theorem go_lload {j : Nat} {v : Int64} (q : Nat) (hp : pc + 2 = q) (hd : decode B.2.1 pc = .ok (.lload j, 2)) (hl : ls[j]? = some (.val (.long v))) (H : Go B Z a0 h0 Q k n ds q ls (.long v :: st)) : Go B Z a0 h0 Q k n ds pc ls st := by
  subst hp; exact H.step fun C X _ t hr => XS.lload X.here C.1 rfl (hb C.2.2.1 hd) hl hr
theorem go_lstoreN {j : Fin 4} {x : Int64} {rest : List Value} (l' : Array Slot) (q : Nat) (hp : pc + 1 = q) (hd : decode B.2.1 pc = .ok (.lstore_n j, 1)) (hst : st = .long x :: rest) (hl : storeLocals ls j.val (.long x) = some l') (H : Go B Z a0 h0 Q k n ds q l' (rest)) : Go B Z a0 h0 Q k n ds pc ls st := by
  subst hp hst; exact H.step fun C X _ t hr => XS.lstoreN X.here C.1 rfl (hb C.2.2.1 hd) rfl hl hr
theorem go_lstore {j : Nat} {x : Int64} {rest : List Value} (l' : Array Slot) (q : Nat) (hp : pc + 2 = q) (hd : decode B.2.1 pc = .ok (.lstore j, 2)) (hst : st = .long x :: rest) (hl : storeLocals ls j (.long x) = some l') (H : Go B Z a0 h0 Q k n ds q l' (rest)) : Go B Z a0 h0 Q k n ds pc ls st := by
  subst hp hst; exact H.step fun C X _ t hr => XS.lstore X.here C.1 rfl (hb C.2.2.1 hd) rfl hl hr
theorem go_aloadN {j : Fin 4} {v : Value} (q : Nat) (hp : pc + 1 = q) (hd : decode B.2.1 pc = .ok (.aload_n j, 1)) (hl : ls[j.val]? = some (.val v)) (hv : v.isRef = true) (H : Go B Z a0 h0 Q k n ds q ls (v :: st)) : Go B Z a0 h0 Q k n ds pc ls st := by
  subst hp; exact H.step fun C X _ t hr => XS.aloadN X.here C.1 rfl (hb C.2.2.1 hd) hl hv hr
theorem go_aload {j : Nat} {v : Value} (q : Nat) (hp : pc + 2 = q) (hd : decode B.2.1 pc = .ok (.aload j, 2)) (hl : ls[j]? = some (.val v)) (hv : v.isRef = true) (H : Go B Z a0 h0 Q k n ds q ls (v :: st)) : Go B Z a0 h0 Q k n ds pc ls st := by
  subst hp; exact H.step fun C X _ t hr => XS.aload X.here C.1 rfl (hb C.2.2.1 hd) hl hv hr
theorem go_astore {j : Nat} {x : Value} {rest : List Value} (l' : Array Slot) (q : Nat) (hp : pc + 2 = q) (hd : decode B.2.1 pc = .ok (.astore j, 2)) (hst : st = x :: rest) (hv : x.isRef = true) (hl : storeLocals ls j x = some l') (H : Go B Z a0 h0 Q k n ds q l' (rest)) : Go B Z a0 h0 Q k n ds pc ls st := by
  subst hp hst; exact H.step fun C X _ t hr => XS.astore X.here C.1 rfl (hb C.2.2.1 hd) rfl hv hl hr
theorem go_iconst {i : Int} (v : Int32) (q : Nat) (hp : pc + 1 = q) (hd : decode B.2.1 pc = .ok (.iconst i, 1)) (hv : Int32.ofInt i = v) (H : Go B Z a0 h0 Q k n ds q ls (.int v :: st)) : Go B Z a0 h0 Q k n ds pc ls st := by
  subst hp hv; exact H.step fun C X _ t hr => XS.iconst X.here C.1 rfl (hb C.2.2.1 hd) hr
theorem go_bipush {i : Int} (v : Int32) (q : Nat) (hp : pc + 2 = q) (hd : decode B.2.1 pc = .ok (.bipush i, 2)) (hv : (Int8.ofInt i).toInt32 = v) (H : Go B Z a0 h0 Q k n ds q ls (.int v :: st)) : Go B Z a0 h0 Q k n ds pc ls st := by
  subst hp hv; exact H.step fun C X _ t hr => XS.bipush X.here C.1 rfl (hb C.2.2.1 hd) hr
theorem go_sipush {i : Int} (v : Int32) (q : Nat) (hp : pc + 3 = q) (hd : decode B.2.1 pc = .ok (.sipush i, 3)) (hv : (Int16.ofInt i).toInt32 = v) (H : Go B Z a0 h0 Q k n ds q ls (.int v :: st)) : Go B Z a0 h0 Q k n ds pc ls st := by
  subst hp hv; exact H.step fun C X _ t hr => XS.sipush X.here C.1 rfl (hb C.2.2.1 hd) hr
theorem go_lconst {i : Fin 2} (v : Int64) (q : Nat) (hp : pc + 1 = q) (hd : decode B.2.1 pc = .ok (.lconst i, 1)) (hv : Int64.ofNat i.val = v) (H : Go B Z a0 h0 Q k n ds q ls (.long v :: st)) : Go B Z a0 h0 Q k n ds pc ls st := by
  subst hp hv; exact H.step fun C X _ t hr => XS.lconst X.here C.1 rfl (hb C.2.2.1 hd) hr
theorem go_iadd {x y : Int32} {rest : List Value} (q : Nat) (hp : pc + 1 = q) (hd : decode B.2.1 pc = .ok (.iadd, 1)) (hst : st = .int y :: .int x :: rest) (H : Go B Z a0 h0 Q k n ds q ls (.int (x + y) :: rest)) : Go B Z a0 h0 Q k n ds pc ls st := by
  subst hp hst; exact H.step fun C X _ t hr => XS.iadd X.here C.1 rfl (hb C.2.2.1 hd) rfl hr
theorem go_isub {x y : Int32} {rest : List Value} (q : Nat) (hp : pc + 1 = q) (hd : decode B.2.1 pc = .ok (.isub, 1)) (hst : st = .int y :: .int x :: rest) (H : Go B Z a0 h0 Q k n ds q ls (.int (x - y) :: rest)) : Go B Z a0 h0 Q k n ds pc ls st := by
  subst hp hst; exact H.step fun C X _ t hr => XS.isub X.here C.1 rfl (hb C.2.2.1 hd) rfl hr
theorem go_imul {x y : Int32} {rest : List Value} (q : Nat) (hp : pc + 1 = q) (hd : decode B.2.1 pc = .ok (.imul, 1)) (hst : st = .int y :: .int x :: rest) (H : Go B Z a0 h0 Q k n ds q ls (.int (x * y) :: rest)) : Go B Z a0 h0 Q k n ds pc ls st := by
  subst hp hst; exact H.step fun C X _ t hr => XS.imul X.here C.1 rfl (hb C.2.2.1 hd) rfl hr
theorem go_iand {x y : Int32} {rest : List Value} (q : Nat) (hp : pc + 1 = q) (hd : decode B.2.1 pc = .ok (.iand, 1)) (hst : st = .int y :: .int x :: rest) (H : Go B Z a0 h0 Q k n ds q ls (.int (x &&& y) :: rest)) : Go B Z a0 h0 Q k n ds pc ls st := by
  subst hp hst; exact H.step fun C X _ t hr => XS.iand X.here C.1 rfl (hb C.2.2.1 hd) rfl hr
theorem go_ishl {x y : Int32} {rest : List Value} (q : Nat) (hp : pc + 1 = q) (hd : decode B.2.1 pc = .ok (.ishl, 1)) (hst : st = .int y :: .int x :: rest) (H : Go B Z a0 h0 Q k n ds q ls (.int (x <<< (y &&& 31)) :: rest)) : Go B Z a0 h0 Q k n ds pc ls st := by
  subst hp hst; exact H.step fun C X _ t hr => XS.ishl X.here C.1 rfl (hb C.2.2.1 hd) rfl hr
theorem go_land {x y : Int64} {rest : List Value} (q : Nat) (hp : pc + 1 = q) (hd : decode B.2.1 pc = .ok (.land, 1)) (hst : st = .long y :: .long x :: rest) (H : Go B Z a0 h0 Q k n ds q ls (.long (x &&& y) :: rest)) : Go B Z a0 h0 Q k n ds pc ls st := by
  subst hp hst; exact H.step fun C X _ t hr => XS.land X.here C.1 rfl (hb C.2.2.1 hd) rfl hr
theorem go_lor {x y : Int64} {rest : List Value} (q : Nat) (hp : pc + 1 = q) (hd : decode B.2.1 pc = .ok (.lor, 1)) (hst : st = .long y :: .long x :: rest) (H : Go B Z a0 h0 Q k n ds q ls (.long (x ||| y) :: rest)) : Go B Z a0 h0 Q k n ds pc ls st := by
  subst hp hst; exact H.step fun C X _ t hr => XS.lor X.here C.1 rfl (hb C.2.2.1 hd) rfl hr
theorem go_lxor {x y : Int64} {rest : List Value} (q : Nat) (hp : pc + 1 = q) (hd : decode B.2.1 pc = .ok (.lxor, 1)) (hst : st = .long y :: .long x :: rest) (H : Go B Z a0 h0 Q k n ds q ls (.long (x ^^^ y) :: rest)) : Go B Z a0 h0 Q k n ds pc ls st := by
  subst hp hst; exact H.step fun C X _ t hr => XS.lxor X.here C.1 rfl (hb C.2.2.1 hd) rfl hr
theorem go_lshl {x : Int64} {y : Int32} {rest : List Value} (q : Nat) (hp : pc + 1 = q) (hd : decode B.2.1 pc = .ok (.lshl, 1)) (hst : st = .int y :: .long x :: rest) (H : Go B Z a0 h0 Q k n ds q ls (.long (x <<< (y &&& 0x3f).toInt64) :: rest)) : Go B Z a0 h0 Q k n ds pc ls st := by
  subst hp hst; exact H.step fun C X _ t hr => XS.lshl X.here C.1 rfl (hb C.2.2.1 hd) rfl hr
theorem go_lushr {x : Int64} {y : Int32} {rest : List Value} (q : Nat) (hp : pc + 1 = q) (hd : decode B.2.1 pc = .ok (.lushr, 1)) (hst : st = .int y :: .long x :: rest) (H : Go B Z a0 h0 Q k n ds q ls (.long ((x.toUInt64 >>> (y &&& 0x3f).toInt64.toUInt64).toInt64) :: rest)) : Go B Z a0 h0 Q k n ds pc ls st := by
  subst hp hst; exact H.step fun C X _ t hr => XS.lushr X.here C.1 rfl (hb C.2.2.1 hd) rfl hr
theorem go_idiv {x y : Int32} {rest : List Value} (q : Nat) (hp : pc + 1 = q) (hd : decode B.2.1 pc = .ok (.idiv, 1)) (hst : st = .int y :: .int x :: rest) (hy : y ≠ 0) (H : Go B Z a0 h0 Q k n ds q ls (.int (x / y) :: rest)) : Go B Z a0 h0 Q k n ds pc ls st := by
  subst hp hst; exact H.step fun C X _ t hr => XS.idiv X.here C.1 rfl (hb C.2.2.1 hd) rfl hy hr
theorem go_irem {x y : Int32} {rest : List Value} (q : Nat) (hp : pc + 1 = q) (hd : decode B.2.1 pc = .ok (.irem, 1)) (hst : st = .int y :: .int x :: rest) (hy : y ≠ 0) (H : Go B Z a0 h0 Q k n ds q ls (.int (x % y) :: rest)) : Go B Z a0 h0 Q k n ds pc ls st := by
  subst hp hst; exact H.step fun C X _ t hr => iremM X C.1 rfl (hb C.2.2.1 hd) rfl hy hr
theorem go_lcmp {x y : Int64} {rest : List Value} (q : Nat) (hp : pc + 1 = q) (hd : decode B.2.1 pc = .ok (.lcmp, 1)) (hst : st = .long y :: .long x :: rest) (H : Go B Z a0 h0 Q k n ds q ls (.int (lcmpW x y) :: rest)) : Go B Z a0 h0 Q k n ds pc ls st := by
  subst hp hst; exact H.step fun C X _ t hr => XS.lcmp X.here C.1 rfl (hb C.2.2.1 hd) rfl hr
theorem go_iinc {j : Nat} {cst : Int} {x : Int32} (l' : Array Slot) (q : Nat) (hp : pc + 3 = q) (hd : decode B.2.1 pc = .ok (.iinc j cst, 3)) (hl : ls[j]? = some (.val (.int x))) (hl' : storeLocals ls j (.int (x + Int32.ofInt cst)) = some l') (H : Go B Z a0 h0 Q k n ds q l' (st)) : Go B Z a0 h0 Q k n ds pc ls st := by
  subst hp; exact H.step fun C X _ t hr => XS.iinc X.here C.1 rfl (hb C.2.2.1 hd) hl hl' hr
theorem go_dup {x : Value} {rest : List Value} (q : Nat) (hp : pc + 1 = q) (hd : decode B.2.1 pc = .ok (.dup, 1)) (hst : st = x :: rest) (hc : x.category = 1) (H : Go B Z a0 h0 Q k n ds q ls (x :: x :: rest)) : Go B Z a0 h0 Q k n ds pc ls st := by
  subst hp hst; exact H.step fun C X _ t hr => XS.dup X.here C.1 rfl (hb C.2.2.1 hd) rfl hc hr
theorem go_dup2 {x y : Value} {rest : List Value} (q : Nat) (hp : pc + 1 = q) (hd : decode B.2.1 pc = .ok (.dup2, 1)) (hst : st = x :: y :: rest) (hc : x.category = 1) (hc' : y.category = 1) (H : Go B Z a0 h0 Q k n ds q ls (x :: y :: x :: y :: rest)) : Go B Z a0 h0 Q k n ds pc ls st := by
  subst hp hst; exact H.step fun C X _ t hr => XT.dup2 X.here C.1 rfl (hb C.2.2.1 hd) rfl hc hc' hr
/-! calls: the callee's Met pays -/
theorem go_initObj {a : Addr} {idx : Nat} {rest : List Value} (q : Nat) (hp : pc + 3 = q) (hd : decode B.2.1 pc = .ok (.invokespecial idx, 3)) (hst : st = .ref a :: rest) (w1 : (Jvm.Cond.methodLink B.1.cls idx Lib.objectInit).before a0 Z = true) (w2 : (Jvm.Cond.instanceMethod Lib.objectInit).before a0 Z = true) (w3 : (Jvm.Cond.code Lib.objectInit ⟨#[0xb1]⟩ 1 none).before a0 Z = true)
    (hsz : ls.size = B.2.2.1) (hf : 1 ≤ B.2.2.2.2.frames) (hl : (rest.map fun v => v.category).sum + 12 ≤ B.2.2.2.2.locals) (H : Go B Z a0 h0 Q k n ds q ls rest) : Go B Z a0 h0 Q k n ds pc ls st := by
  subst hp hst
  intro p l e s m args below meth c T locs hs as Cc X N M R
  obtain ⟨T', X', e', st'⟩ := initO X Cc.1 Cc.2.1 Cc.2.2.2.2.1 w1 w2 w3 rfl (g := mkF m pc ls (.ref a :: rest)) rfl (hsz.trans Cc.2.2.2.1.symm) rfl (hb Cc.2.2.1 hd) hf (W := (rest.map fun v => v.category).sum) (by show 2 * 0 + _ ≤ _; omega) hl
  exact (H p l e s m args below meth c T' locs hs as Cc X' N (by rw [e']; exact M) (by rw [e']; exact R)).back st'
variable {y z : MethodName} {bytes : ByteArray} {maxL : Nat} {ret : Option FieldType} {rm : Room} {idx : Nat} {argsL rest : List Value} {ps : List FieldType} {Q' : Option Value → Mem → Prop}
theorem go_callS (q : Nat) (hp : pc + 3 = q) (hd : decode B.2.1 pc = .ok (.invokestatic idx, 3)) (w1 : (Jvm.Cond.methodLink B.1.cls idx y).before a0 Z = true) (w2 : (Jvm.Cond.static y).before a0 Z = true) (w3 : (Jvm.Cond.initialized y.cls).before a0 Z = true) (w4 : (Jvm.Cond.code y bytes maxL ret).before a0 Z = true)
    (hy : y.cls ≠ "java/lang/invoke/MethodHandle" ∧ y.cls ≠ "java/lang/invoke/VarHandle") (hM : Met (y, bytes, maxL, ret, rm) Z a0 h0 argsL.toArray ds Q') (hst : st = argsL.reverse ++ rest) (hpd : parseMethodDescriptor y.desc = some ⟨ps, ret⟩) (hlen : argsL.length = ps.length)
    (hsz : ls.size = B.2.2.1) (W : Nat) (hW : (rest.map fun v => v.category).sum = W) (hf : rm.frames + 1 ≤ B.2.2.2.2.frames) (hl : W + (maxL + 11) + rm.locals ≤ B.2.2.2.2.locals) (hk : k + rm.cells ≤ B.2.2.2.2.cells) (hn : n + rm.slots ≤ B.2.2.2.2.slots)
    (H : ∀ v ds', Q' v ds' → Go B Z a0 h0 Q (k + rm.cells) (n + rm.slots) ds' q ls (v.toList ++ rest)) : Go B Z a0 h0 Q k n ds pc ls st := by
  subst hp hst
  intro p l e s m args below meth c T locs hs as Cc X N M R
  have hZ := Cc.2.1
  obtain ⟨v, _, ⟨T', L', k', n'⟩, -, X', ⟨Lc, hQ, l1, y1, z1⟩, st'⟩ := Jvm.LawKit.callS X Cc.1 (y := y) Cc.2.2.2.2.1 (mvT hZ w1) (mvT hZ w2) (mvT hZ w3) (mvT hZ w4) hy (backOf (W := W) (hM l [] T.heap M) hZ w4 w3 hf hl) (g := mkF m pc ls (argsL.reverse ++ rest)) rfl (hsz.trans Cc.2.2.2.1.symm) (argsL := argsL) (rest := rest) (lenOf hpd hlen) rfl (by show 2 * 0 + _ ≤ _; omega) (hb Cc.2.2.1 hd) (fun _ _ => ⟨rfl, rfl, hk, hn⟩)
  dsimp only [Pt.U, Pt.locs, Pt.cells, Pt.slots] at X' l1 y1 z1 st' hQ
  subst l1 y1 z1
  obtain ⟨N', ds', M', R', hq⟩ := hQ
  exact (H v ds' hq p l e s m args below meth c T' _ hs as Cc X' (Fr.app N N') M' (R.call R')).back st'
theorem go_callI {a : Addr} (q : Nat) (hp : pc + 3 = q) (hd : decode B.2.1 pc = .ok (.invokespecial idx, 3)) (hin : y.name = "<init>") (w1 : (Jvm.Cond.methodLink B.1.cls idx y).before a0 Z = true) (w2 : (Jvm.Cond.instanceMethod y).before a0 Z = true) (w3 : (Jvm.Cond.initialized y.cls).before a0 Z = true) (w4 : (Jvm.Cond.code y bytes maxL none).before a0 Z = true)
    (hy : y.cls ≠ "java/lang/invoke/MethodHandle" ∧ y.cls ≠ "java/lang/invoke/VarHandle") (hM : Met (y, bytes, maxL, none, rm) Z a0 h0 (.ref a :: argsL).toArray ds Q') (hst : st = argsL.reverse ++ .ref a :: rest) (hpd : parseMethodDescriptor y.desc = some ⟨ps, ret⟩) (hlen : argsL.length = ps.length)
    (hsz : ls.size = B.2.2.1) (W : Nat) (hW : (rest.map fun v => v.category).sum = W) (hf : rm.frames + 1 ≤ B.2.2.2.2.frames) (hl : W + (maxL + 11) + rm.locals ≤ B.2.2.2.2.locals) (hk : k + rm.cells ≤ B.2.2.2.2.cells) (hn : n + rm.slots ≤ B.2.2.2.2.slots)
    (H : ∀ v ds', Q' v ds' → Go B Z a0 h0 Q (k + rm.cells) (n + rm.slots) ds' q ls (v.toList ++ rest)) : Go B Z a0 h0 Q k n ds pc ls st := by
  subst hp hst
  intro p l e s m args below meth c T locs hs as Cc X N M R
  have hZ := Cc.2.1
  obtain ⟨v, _, ⟨T', L', k', n'⟩, -, X', ⟨Lc, hQ, l1, y1, z1⟩, st'⟩ := X.specialBack Cc.1 (y := y) hin Cc.2.2.2.2.1 (mvT hZ w1) (mvT hZ w2) (mvT hZ w4) hy (backOf (W := W) (hM l [] T.heap M) hZ w4 w3 hf hl) (g := mkF m pc ls (argsL.reverse ++ .ref a :: rest)) rfl (hsz.trans Cc.2.2.2.1.symm) (Steps.refl _) (a := a) (argsL := argsL) (rest := rest) (lenOf hpd hlen) rfl (by show 2 * 0 + _ ≤ _; omega) (hb Cc.2.2.1 hd) (fun _ _ => ⟨rfl, rfl, hk, hn⟩)
  dsimp only [Pt.U, Pt.locs, Pt.cells, Pt.slots] at X' l1 y1 z1 st' hQ
  subst l1 y1 z1
  obtain ⟨N', ds', M', R', hq⟩ := hQ
  exact (H v ds' hq p l e s m args below meth c T' _ hs as Cc X' (Fr.app N N') M' (R.call R')).back fun t hr => st'.trans hr
theorem go_callVz {a : Addr} {C : String} (q : Nat) (hp : pc + 3 = q) (hd : decode B.2.1 pc = .ok (.invokevirtual idx, 3)) (w1 : (Jvm.Cond.methodLink B.1.cls idx y).before a0 Z = true) (w2 : (Jvm.Cond.declares y).before a0 Z = true) (w3 : (Jvm.Cond.selects C y z).before a0 Z = true) (w4 : (Jvm.Cond.instanceMethod z).before a0 Z = true) (w5 : (Jvm.Cond.initialized z.cls).before a0 Z = true) (w6 : (Jvm.Cond.code z bytes maxL ret).before a0 Z = true)
    (hnf : ∀ s : State, Z.Warmed39 s.vm → NotFace s y) (hy : y.cls ≠ "java/lang/invoke/MethodHandle" ∧ y.cls ≠ "java/lang/invoke/VarHandle") (hE : ∀ h, Mo Z a0 h0 ds h → Exa Z h a C) (hM : Met (z, bytes, maxL, ret, rm) Z a0 h0 (.ref a :: argsL).toArray ds Q') (hst : st = argsL.reverse ++ .ref a :: rest) (hpd : parseMethodDescriptor y.desc = some ⟨ps, ret⟩) (hlen : argsL.length = ps.length)
    (hsz : ls.size = B.2.2.1) (W : Nat) (hW : (rest.map fun v => v.category).sum = W) (hf : rm.frames + 1 ≤ B.2.2.2.2.frames) (hl : W + (maxL + 11) + rm.locals ≤ B.2.2.2.2.locals) (hk : k + rm.cells ≤ B.2.2.2.2.cells) (hn : n + rm.slots ≤ B.2.2.2.2.slots)
    (H : ∀ v ds', Q' v ds' → Go B Z a0 h0 Q (k + rm.cells) (n + rm.slots) ds' q ls (v.toList ++ rest)) : Go B Z a0 h0 Q k n ds pc ls st := by
  subst hp hst
  intro p l e s m args below meth c T locs hs as Cc X N M R
  have hZ := Cc.2.1
  obtain ⟨cq, kq, qa, qb, qc⟩ := isOf hZ rfl (hE _ M)
  obtain ⟨v, _, ⟨T', L', k', n'⟩, -, X', ⟨Lc, hQ, l1, y1, z1⟩, st'⟩ := X.virtualBack Cc.1 (y := y) (z := z) Cc.2.2.2.2.1 (mvT hZ w1) (mvT hZ w2) (hnf _ hZ) (mvT hZ w3) (mvT hZ w4) hy (backOf (W := W) (hM l [] T.heap M) hZ w6 w5 hf hl) qa qc (g := mkF m pc ls (argsL.reverse ++ .ref a :: rest)) rfl (hsz.trans Cc.2.2.2.1.symm) (Steps.refl _) (argsL := argsL) (rest := rest) (lenOf hpd hlen) rfl (by show 2 * 0 + _ ≤ _; omega) (hb Cc.2.2.1 hd) (fun _ _ => ⟨rfl, rfl, hk, hn⟩)
  dsimp only [Pt.U, Pt.locs, Pt.cells, Pt.slots] at X' l1 y1 z1 st' hQ
  subst l1 y1 z1
  obtain ⟨N', ds', M', R', hq⟩ := hQ
  exact (H v ds' hq p l e s m args below meth c T' _ hs as Cc X' (Fr.app N N') M' (R.call R')).back fun t hr => st'.trans hr
theorem go_callV {a : Addr} {C : String} (q : Nat) (hp : pc + 3 = q) (hd : decode B.2.1 pc = .ok (.invokevirtual idx, 3)) (w1 : (Jvm.Cond.methodLink B.1.cls idx y).before a0 Z = true) (w2 : (Jvm.Cond.declares y).before a0 Z = true) (w3 : (Jvm.Cond.selects C y y).before a0 Z = true) (w4 : (Jvm.Cond.instanceMethod y).before a0 Z = true) (w5 : (Jvm.Cond.initialized y.cls).before a0 Z = true) (w6 : (Jvm.Cond.code y bytes maxL ret).before a0 Z = true)
    (hy : y.cls ≠ "java/lang/invoke/MethodHandle" ∧ y.cls ≠ "java/lang/invoke/VarHandle") (hE : ∀ h, Mo Z a0 h0 ds h → Exa Z h a C) (hM : Met (y, bytes, maxL, ret, rm) Z a0 h0 (.ref a :: argsL).toArray ds Q') (hst : st = argsL.reverse ++ .ref a :: rest) (hpd : parseMethodDescriptor y.desc = some ⟨ps, ret⟩) (hlen : argsL.length = ps.length)
    (hsz : ls.size = B.2.2.1) (W : Nat) (hW : (rest.map fun v => v.category).sum = W) (hf : rm.frames + 1 ≤ B.2.2.2.2.frames) (hl : W + (maxL + 11) + rm.locals ≤ B.2.2.2.2.locals) (hk : k + rm.cells ≤ B.2.2.2.2.cells) (hn : n + rm.slots ≤ B.2.2.2.2.slots)
    (H : ∀ v ds', Q' v ds' → Go B Z a0 h0 Q (k + rm.cells) (n + rm.slots) ds' q ls (v.toList ++ rest)) : Go B Z a0 h0 Q k n ds pc ls st :=
  go_callVz q hp hd w1 w2 w3 w4 w5 w6 (fun s hZ => notFace_of_selects (args := #[]) (mvT hZ w3)) hy hE hM hst hpd hlen hsz W hW hf hl hk hn H
theorem go_callP {a : Addr} {C host : String} {kk : Nat} (q : Nat) (hp : pc + 3 = q) (hd : decode B.2.1 pc = .ok (.invokevirtual idx, 3)) (w1 : (Jvm.Cond.methodLink B.1.cls idx y).before a0 Z = true ∨ (Jvm.Cond.methodLinkNest B.1.cls idx y host).before a0 Z = true) (w2 : (Jvm.Cond.instanceMethod y).before a0 Z = true) (w3 : (Jvm.Cond.privateMethod y).before a0 Z = true) (wi : (Jvm.Cond.instantiable y.cls kk).before a0 Z = true) (w5 : (Jvm.Cond.initialized y.cls).before a0 Z = true) (w6 : (Jvm.Cond.code y bytes maxL ret).before a0 Z = true)
    (hy : y.cls ≠ "java/lang/invoke/MethodHandle" ∧ y.cls ≠ "java/lang/invoke/VarHandle") (hE : ∀ h, Mo Z a0 h0 ds h → Exa Z h a C) (hM : Met (y, bytes, maxL, ret, rm) Z a0 h0 (.ref a :: argsL).toArray ds Q') (hst : st = argsL.reverse ++ .ref a :: rest) (hpd : parseMethodDescriptor y.desc = some ⟨ps, ret⟩) (hlen : argsL.length = ps.length)
    (hsz : ls.size = B.2.2.1) (W : Nat) (hW : (rest.map fun v => v.category).sum = W) (hf : rm.frames + 1 ≤ B.2.2.2.2.frames) (hl : W + (maxL + 11) + rm.locals ≤ B.2.2.2.2.locals) (hk : k + rm.cells ≤ B.2.2.2.2.cells) (hn : n + rm.slots ≤ B.2.2.2.2.slots)
    (H : ∀ v ds', Q' v ds' → Go B Z a0 h0 Q (k + rm.cells) (n + rm.slots) ds' q ls (v.toList ++ rest)) : Go B Z a0 h0 Q k n ds pc ls st := by
  subst hp hst
  intro p l e s m args below meth c T locs hs as Cc X N M R
  have hZ := Cc.2.1
  obtain ⟨cell, hcell, hobj⟩ := (hE _ M).cell
  obtain ⟨mk, methM, hnamed, hmethM, hstM, habM⟩ := Cond.instanceMethod_spec (mvT (args := args) hZ w2)
  obtain ⟨methM', cM, hmethM', -, -, -, -, -, -, hsigM⟩ := Cond.code_spec hnamed (mvT (args := args) hZ w6)
  cases hmethM.symm.trans hmethM'
  have hpriv := Cond.privateMethod_at (mvP hZ w3 (args := args))
  have hselP := selectMethod_private (p := e.platform) (c := cell.cls) hmethM (hpriv mk methM hnamed hmethM)
  obtain ⟨cP, kP, f1, hkP, -, hni, -⟩ := Cond.instantiable_spec (mvT (args := args) hZ wi)
  cases f1.symm.trans (findClass_of_methodNamed hnamed)
  have hni' : kP.isInterface = false := by cases hq : kP.isInterface with
    | false => rfl
    | true => rw [hq] at hni; simp at hni
  have hlen' := lenOf hpd hlen _ hsigM
  obtain ⟨vm₁, X₁, hstep₁⟩ : ∃ vm', Stand p l e B.2.2.2.2 s m args below meth c (T.setVm vm') locs k n ∧
      ∀ target, (∀ acts, Steps p.tables e below (doInvoke e ((T.setVm vm').setTop { (mkF m pc ls (argsL.reverse ++ .ref a :: rest)) with stack := rest }) acts mk (.ref a :: argsL).toArray).1 target) → Steps p.tables e below (T.setTop (mkF m pc ls (argsL.reverse ++ .ref a :: rest))) target := by
    rcases w1 with w1 | w1
    · exact X.invokevirtual Cc.1 Cc.2.2.2.2.1 (mvT hZ w1) hnamed hmethM hstM hkP hni' hy hcell hobj hselP hmethM habM hkP hni' rfl hlen' rfl (hb Cc.2.2.1 hd)
    · exact X.invokevirtualNest Cc.1 Cc.2.2.2.2.1 (Cond.methodLinkNest_wide hZ w1 :) hnamed hmethM hstM hkP hni' hy hcell hobj hselP hmethM habM hkP hni' rfl hlen' rfl (hb Cc.2.2.1 hd)
  have hW₁ : s.WarmedH vm₁ := X₁.warmed
  obtain ⟨v, ⟨T', L', k', n'⟩, X', ⟨Lc, hQ, l1, y1, z1⟩, hsteps⟩ := backOf (len := 3) (W := W) (hM l [] T.heap M) hZ w6 w5 hf hl m meth c ⟨T.setVm vm₁, locs, k, n⟩ { (mkF m pc ls (argsL.reverse ++ .ref a :: rest)) with stack := rest } (.invokevirtual idx) mk (.ref a :: argsL).toArray X₁ rfl (hsz.trans Cc.2.2.2.1.symm) (hb Cc.2.2.1 hd) (by show 2 * 0 + (rest.map fun v => v.category).sum ≤ _; omega) (X₁.named hnamed) ⟨rfl, rfl, hk, hn⟩
  dsimp only [Pt.U, Pt.locs, Pt.cells, Pt.slots] at X' l1 y1 z1 hsteps hQ
  subst l1 y1 z1
  obtain ⟨N', ds', M', R', hq⟩ := hQ
  exact (H v ds' hq p l e s m args below meth c T' _ hs as Cc X' (Fr.app N N') M' (R.call R')).back fun t hr => (hstep₁ _ fun acts => by rw [doInvoke_state]; exact Steps.refl _).trans (hsteps.trans hr)
end Core
end Jvm.OwnW

namespace Jvm.OwnW
open Sem ClassFile Op Lib Jvm.Stand Jvm.Free Jvm.LawKit Jvm.RoadKit
/-- a static callee that the library pays for and that writes nothing -/
theorem go_pureS {B : Bdy} {Z : State} {a0 : Array Value} {h0 : Heap} {Q : Option Value → Mem → Prop} {k n : Nat} {ds : Mem} {pc : Nat} {ls : Array Slot} {st : List Value} {y : MethodName} {bytes : ByteArray} {maxL : Nat} {ret : Option FieldType} {idx : Nat} {argsL rest : List Value} {ps : List FieldType}
    {fr lo nn na : Nat} {site : List Jvm.Cond} {P : Array Value → State → Prop} {v0 v1 : Value} (q : Nat) (hp : pc + 3 = q) (hd : decode B.2.1 pc = .ok (.invokestatic idx, 3)) (w1 : (Jvm.Cond.methodLink B.1.cls idx y).before a0 Z = true) (w2 : (Jvm.Cond.static y).before a0 Z = true) (wt : ∀ (args : Array Value) (s : State), Z.Warmed39 s.vm → (XT.tabOf y bytes maxL ret site).before args s = true)
    (hL : ∀ l, XT.Law l y nn na fr lo bytes maxL ret site P (XT.PureE (some v0)) [] 0 0) (hy : y.cls ≠ "java/lang/invoke/MethodHandle" ∧ y.cls ≠ "java/lang/invoke/VarHandle") (hP : ∀ U, P argsL.toArray U) (hv : v0 = v1) (hst : st = argsL.reverse ++ rest) (hpd : parseMethodDescriptor y.desc = some ⟨ps, ret⟩) (hlen : argsL.length = ps.length)
    (hsz : ls.size = B.2.2.1) (W : Nat) (hW : (rest.map fun v => v.category).sum = W) (hf : fr + 1 ≤ B.2.2.2.2.frames) (hl : W + (maxL + 11) + lo ≤ B.2.2.2.2.locals) (hk : k ≤ B.2.2.2.2.cells) (hn : n ≤ B.2.2.2.2.slots) (H : Go B Z a0 h0 Q k n ds q ls (v1 :: rest)) : Go B Z a0 h0 Q k n ds pc ls st := by
  subst hp hst hv
  intro p l e s m args below meth c T locs hs as Cc X N M R
  have hZ := Cc.2.1
  have tt : (XT.tabOf y bytes maxL ret site).before args s = true := wt args s hZ
  obtain ⟨v, _, ⟨T', L', k', n'⟩, -, X', ⟨⟨hv, hh⟩, l1, y1, z1⟩, st'⟩ := Jvm.LawKit.callS X Cc.1 (y := y) Cc.2.2.2.2.1 (mvT hZ w1) (mvT hZ w2) ((XT.parts tt).2 _ (List.mem_cons_self ..)) (XT.parts tt).1 hy ((hL l).pays (W := W) tt hf hl) (g := mkF m pc ls (argsL.reverse ++ rest)) rfl (hsz.trans Cc.2.2.2.1.symm) (argsL := argsL) (rest := rest) (lenOf hpd hlen) rfl (by show 2 * 0 + _ ≤ _; omega) (hb Cc.2.2.1 hd) (fun _ _ => ⟨hk, hn, hP _⟩)
  dsimp only [Pt.U, Pt.locs, Pt.cells, Pt.slots] at X' l1 y1 z1 st' hh
  subst hv
  rw [List.append_nil] at l1
  subst l1 y1 z1
  have e' : T'.heap = T.heap := hh
  exact (H p l e s m args below meth c T' _ hs as Cc X' N (by rw [e']; exact M) (by rw [e']; exact R)).back st'
end Jvm.OwnW

set_option maxRecDepth 65536
set_option maxHeartbeats 4000000
namespace Jvm.Pilot.@@N@@
open Jvm Jvm.ClassFile Sem Op Lib Jvm.Free Jvm.Stand Jvm.LawKit Jvm.RoadKit Bundle Jvm.OwnW Jvm.Pilot.@@N@@.Jvm.D


/-! THE PLAIN LAW: P x says that the piece x is free -/
def bt (q : Int64) (j : Int) : Bool := q.toBitVec.getLsbD j.toNat
abbrev Fr1 := Int → Prop
/-- the word w of a row -/
def Fre (P : Fr1) (w : Int) (q : Int64) : Prop := ∀ j : Int, 0 ≤ j → j < 64 → (bt q j = false ↔ P (64 * w + j))
def All (P : Fr1) (s e : Int) : Prop := ∀ x, s ≤ x → x < e → P x
/-- the counts of the stretch from lo up to hi -/
def Sm (P : Fr1) (lo hi f l m : Int) : Prop := (0 ≤ f) ∧ (f ≤ hi - lo) ∧ (All P lo (lo + f)) ∧ (f < hi - lo → ¬ P (lo + f)) ∧ (0 ≤ l) ∧ (l ≤ hi - lo) ∧ (All P (hi - l) hi) ∧ (l < hi - lo → ¬ P (hi - l - 1)) ∧ (0 ≤ m) ∧ (m ≤ hi - lo) ∧ (∀ s k, lo ≤ s → s + k ≤ hi → All P s (s + k) → k ≤ m) ∧ (∃ s, lo ≤ s ∧ s + m ≤ hi ∧ All P s (s + m))
theorem Sm.f0 {P : Fr1} {lo hi f l m : Int} (h : Sm P lo hi f l m) : 0 ≤ f := h.1
theorem Sm.f1 {P : Fr1} {lo hi f l m : Int} (h : Sm P lo hi f l m) : f ≤ hi - lo := h.2.1
theorem Sm.f2 {P : Fr1} {lo hi f l m : Int} (h : Sm P lo hi f l m) : All P lo (lo + f) := h.2.2.1
theorem Sm.f3 {P : Fr1} {lo hi f l m : Int} (h : Sm P lo hi f l m) : f < hi - lo → ¬ P (lo + f) := h.2.2.2.1
theorem Sm.l0 {P : Fr1} {lo hi f l m : Int} (h : Sm P lo hi f l m) : 0 ≤ l := h.2.2.2.2.1
theorem Sm.l1 {P : Fr1} {lo hi f l m : Int} (h : Sm P lo hi f l m) : l ≤ hi - lo := h.2.2.2.2.2.1
theorem Sm.l2 {P : Fr1} {lo hi f l m : Int} (h : Sm P lo hi f l m) : All P (hi - l) hi := h.2.2.2.2.2.2.1
theorem Sm.l3 {P : Fr1} {lo hi f l m : Int} (h : Sm P lo hi f l m) : l < hi - lo → ¬ P (hi - l - 1) := h.2.2.2.2.2.2.2.1
theorem Sm.m0 {P : Fr1} {lo hi f l m : Int} (h : Sm P lo hi f l m) : 0 ≤ m := h.2.2.2.2.2.2.2.2.1
theorem Sm.m1 {P : Fr1} {lo hi f l m : Int} (h : Sm P lo hi f l m) : m ≤ hi - lo := h.2.2.2.2.2.2.2.2.2.1
theorem Sm.m2 {P : Fr1} {lo hi f l m : Int} (h : Sm P lo hi f l m) : ∀ s k, lo ≤ s → s + k ≤ hi → All P s (s + k) → k ≤ m := h.2.2.2.2.2.2.2.2.2.2.1
theorem Sm.m3 {P : Fr1} {lo hi f l m : Int} (h : Sm P lo hi f l m) : ∃ s, lo ≤ s ∧ s + m ≤ hi ∧ All P s (s + m) := h.2.2.2.2.2.2.2.2.2.2.2
theorem Sm.mk {P : Fr1} {lo hi f l m : Int} (x_f0 : 0 ≤ f) (x_f1 : f ≤ hi - lo) (x_f2 : All P lo (lo + f)) (x_f3 : f < hi - lo → ¬ P (lo + f)) (x_l0 : 0 ≤ l) (x_l1 : l ≤ hi - lo) (x_l2 : All P (hi - l) hi) (x_l3 : l < hi - lo → ¬ P (hi - l - 1)) (x_m0 : 0 ≤ m) (x_m1 : m ≤ hi - lo) (x_m2 : ∀ s k, lo ≤ s → s + k ≤ hi → All P s (s + k) → k ≤ m) (x_m3 : ∃ s, lo ≤ s ∧ s + m ≤ hi ∧ All P s (s + m)) : Sm P lo hi f l m := ⟨x_f0, x_f1, x_f2, x_f3, x_l0, x_l1, x_l2, x_l3, x_m0, x_m1, x_m2, x_m3⟩
/-- the search of one word, from st on -/
def Sc (P : Fr1) (hi st L z : Int) : Prop := (st ≤ z ∧ z + L ≤ hi ∧ All P z (z + L) ∧ ∀ s, st ≤ s → s < z → ¬ All P s (s + L)) ∨ (z = -1 ∧ ∀ s, st ≤ s → s + L ≤ hi → ¬ All P s (s + L))
def Ans (P : Fr1) (F L z : Int) : Prop := (F ≤ z ∧ All P z (z + L) ∧ ∀ s, F ≤ s → s < z → ¬ All P s (s + L)) ∨ (z = -1 ∧ ∀ s, F ≤ s → ¬ All P s (s + L))
/-- the search stands before lo: so many free pieces just before it, none fits yet -/
def LI (P : Fr1) (F L lo run : Int) : Prop := (0 ≤ run) ∧ (F ≤ lo - run) ∧ (All P (lo - run) lo) ∧ (lo - run = F ∨ ¬ P (lo - run - 1)) ∧ (∀ s, F ≤ s → s + L ≤ lo → ¬ All P s (s + L))
theorem LI.r0 {P : Fr1} {F L lo run : Int} (h : LI P F L lo run) : 0 ≤ run := h.1
theorem LI.r1 {P : Fr1} {F L lo run : Int} (h : LI P F L lo run) : F ≤ lo - run := h.2.1
theorem LI.r2 {P : Fr1} {F L lo run : Int} (h : LI P F L lo run) : All P (lo - run) lo := h.2.2.1
theorem LI.r3 {P : Fr1} {F L lo run : Int} (h : LI P F L lo run) : lo - run = F ∨ ¬ P (lo - run - 1) := h.2.2.2.1
theorem LI.r4 {P : Fr1} {F L lo run : Int} (h : LI P F L lo run) : ∀ s, F ≤ s → s + L ≤ lo → ¬ All P s (s + L) := h.2.2.2.2
theorem LI.mk {P : Fr1} {F L lo run : Int} (x_r0 : 0 ≤ run) (x_r1 : F ≤ lo - run) (x_r2 : All P (lo - run) lo) (x_r3 : lo - run = F ∨ ¬ P (lo - run - 1)) (x_r4 : ∀ s, F ≤ s → s + L ≤ lo → ¬ All P s (s + L)) : LI P F L lo run := ⟨x_r0, x_r1, x_r2, x_r3, x_r4⟩
section Plain
variable {P Q : Fr1} {w F L lo mid hi f l m fl ll ml fr lr mr p z e run : Int} {q : Int64}
theorem All.app {s t e : Int} (h1 : All P s t) (h2 : All P t e) : All P s e := fun x a b => by
  by_cases c : x < t
  · exact h1 x a c
  · exact h2 x (by omega) b
theorem All.sub {s t s' t' : Int} (h : All P s t) (h1 : s ≤ s') (h2 : t' ≤ t) : All P s' t' := fun x a b => h x (by omega) (by omega)
theorem Sm.congr (s : Sm P lo hi f l m) (h : ∀ x, lo ≤ x → x < hi → (P x ↔ Q x)) : Sm Q lo hi f l m := by
  have t : ∀ {a b : Int}, lo ≤ a → b ≤ hi → All P a b → All Q a b := fun h1 h2 g x hx hy => (h x (by omega) (by omega)).mp (g x hx hy)
  have t' : ∀ {a b : Int}, lo ≤ a → b ≤ hi → All Q a b → All P a b := fun h1 h2 g x hx hy => (h x (by omega) (by omega)).mpr (g x hx hy)
  have h0 := s.f0; have h1 := s.f1; have h2 := s.l0; have h3 := s.l1
  unfold Sm
  refine ⟨s.f0, s.f1, t (by omega) (by omega) s.f2, fun g r => s.f3 g ((h _ (by omega) (by omega)).mpr r), s.l0, s.l1, t (by omega) (by omega) s.l2, fun g r => s.l3 g ((h _ (by omega) (by omega)).mpr r), s.m0, s.m1, fun a k h1 h2 g => s.m2 a k h1 h2 (t' (by omega) (by omega) g), ?_⟩
  obtain ⟨a, h1, h2, g⟩ := s.m3
  exact ⟨a, h1, h2, t (by omega) (by omega) g⟩
theorem Sm.merge (sl : Sm P lo mid fl ll ml) (sr : Sm P mid hi fr lr mr) (h1 : lo < mid) (h2 : mid - lo = hi - mid)
    (hf : fl = mid - lo ∧ f = mid - lo + fr ∨ fl ≠ mid - lo ∧ f = fl) (hl : lr = mid - lo ∧ l = mid - lo + ll ∨ lr ≠ mid - lo ∧ l = lr) (hm1 : ml ≤ m) (hm2 : mr ≤ m) (hm3 : ll + fr ≤ m) (hm4 : m = ml ∨ m = mr ∨ m = ll + fr) : Sm P lo hi f l m := by
  have a0 := sl.f0; have a1 := sl.f1; have a2 := sl.l0; have a3 := sl.l1; have a4 := sl.m0; have a5 := sl.m1
  have b0 := sr.f0; have b1 := sr.f1; have b2 := sr.l0; have b3 := sr.l1; have b4 := sr.m0; have b5 := sr.m1
  show Sm P lo hi f l m
  unfold Sm
  refine ⟨by omega, by omega, ?_, ?_, by omega, by omega, ?_, ?_, by omega, by omega, ?_, ?_⟩
  · rcases hf with ⟨e, rfl⟩ | ⟨e, rfl⟩
    · exact (sl.f2.sub (by omega) (by omega)).app (t := mid) (sr.f2.sub (by omega) (by omega))
    · exact sl.f2
  · intro g
    rcases hf with ⟨e, rfl⟩ | ⟨e, rfl⟩
    · rw [show lo + (mid - lo + fr) = mid + fr from by omega]; exact sr.f3 (by omega)
    · exact sl.f3 (by omega)
  · rcases hl with ⟨e, rfl⟩ | ⟨e, rfl⟩
    · exact (sl.l2.sub (by omega) (by omega)).app (t := mid) (sr.l2.sub (by omega) (by omega))
    · exact sr.l2
  · intro g
    rcases hl with ⟨e, rfl⟩ | ⟨e, rfl⟩
    · rw [show hi - (mid - lo + ll) - 1 = mid - ll - 1 from by omega]; exact sl.l3 (by omega)
    · exact sr.l3 (by omega)
  · intro s k g1 g2 g
    by_cases c1 : s + k ≤ mid
    · have := sl.m2 s k g1 c1 g; omega
    · by_cases c2 : mid ≤ s
      · have := sr.m2 s k c2 g2 g; omega
      · have d1 : mid - s ≤ ll := Int.not_lt.mp fun c => sl.l3 (by omega) (g _ (by omega) (by omega))
        have d2 : s + k - mid ≤ fr := Int.not_lt.mp fun c => sr.f3 (by omega) (g _ (by omega) (by omega))
        omega
  · rcases hm4 with rfl | rfl | rfl
    · obtain ⟨s, g1, g2, g⟩ := sl.m3; exact ⟨s, g1, by omega, g⟩
    · obtain ⟨s, g1, g2, g⟩ := sr.m3; exact ⟨s, by omega, g2, g⟩
    · exact ⟨mid - ll, by omega, by omega, sl.l2.app (sr.f2.sub (by omega) (by omega))⟩
/-- a run that crosses lo -/
theorem LI.cross (h : LI P F L lo run) (s : Sm P lo hi f l m) {x : Int} (h1 : F ≤ x) (h2 : x < lo) (h3 : lo ≤ x + L) (h4 : x + L ≤ hi) (g : All P x (x + L)) : L ≤ run + f := by
  have d1 : lo - x ≤ run := by
    have := h.r1; have := h.r0
    rcases h.r3 with e | e
    · omega
    · exact Int.not_lt.mp fun c => e (g _ (by omega) (by omega))
  have d2 : x + L - lo ≤ f := by
    have := s.f0
    exact Int.not_lt.mp fun c => s.f3 (by omega) (g _ (by omega) (by omega))
  omega
theorem LI.found (h : LI P F L lo run) (s : Sm P lo hi f l m) (hL : 0 < L) (hc : L ≤ run + f) : Ans P F L (lo - run) := by
  have := h.r1; have := h.r0
  refine Or.inl ⟨h.r1, (h.r2.app s.f2).sub (by omega) (by omega), fun x h1 h2 g => ?_⟩
  rcases h.r3 with e | e
  · omega
  · by_cases c : x + L ≤ lo
    · exact h.r4 x h1 c g
    · exact e (g _ (by omega) (by omega))
theorem LI.skip (h : LI P F L lo run) (s : Sm P lo hi f l m) (hlh : lo < hi) (hc : run + f < L) (hm : m < L) {r : Int} (hr : f = hi - lo ∧ r = run + (hi - lo) ∨ f ≠ hi - lo ∧ r = l) : LI P F L hi r := by
  have := h.r1; have := h.r0; have := s.f0; have := s.f1; have := s.l0; have := s.l1
  unfold LI
  refine ⟨by omega, by omega, ?_, ?_, fun x h1 h2 g => ?_⟩
  · rcases hr with ⟨e, rfl⟩ | ⟨e, rfl⟩
    · exact (h.r2.sub (by omega) (by omega)).app (t := lo) (s.f2.sub (by omega) (by omega))
    · exact s.l2
  · rcases hr with ⟨e, rfl⟩ | ⟨e, rfl⟩
    · rcases h.r3 with e | e
      · exact Or.inl (by omega)
      · exact Or.inr (by rw [show hi - (run + (hi - lo)) - 1 = lo - run - 1 from by omega]; exact e)
    · refine Or.inr (s.l3 (Int.not_le.mp fun c => s.f3 (by omega) (s.l2 _ (by omega) (by omega))))
  · by_cases c : x + L ≤ lo
    · exact h.r4 x h1 c g
    · by_cases c2 : lo ≤ x
      · have := s.m2 x L c2 h2 g; omega
      · have := h.cross s h1 (by omega) (by omega) h2 g; omega
theorem LI.scan (h : LI P F L lo run) (s : Sm P lo hi f l m) (h0 : 0 ≤ lo) (hL : 0 < L) (hc : run + f < L) (hm : L ≤ m) (hs : Sc P hi lo L z) : 0 ≤ z ∧ Ans P F L z := by
  rcases hs with ⟨g1, g2, g3, g4⟩ | ⟨g1, g2⟩
  · have := h.r1; have := h.r0
    refine ⟨by omega, Or.inl ⟨by omega, g3, fun x h1 h2 g => ?_⟩⟩
    by_cases c : lo ≤ x
    · exact g4 x c h2 g
    · by_cases c2 : x + L ≤ lo
      · exact h.r4 x h1 c2 g
      · have := h.cross s h1 (by omega) (by omega) (by omega) g; omega
  · obtain ⟨x, k1, k2, k3⟩ := s.m3
    exact absurd (k3.sub (s' := x) (t' := x + L) (by omega) (by omega)) (g2 x k1 (by omega))
theorem LI.fin (h : LI P F L lo run) (hL : 0 < L) (hC : ∀ x, lo ≤ x → ¬ P x) : Ans P F L (-1) :=
  Or.inr ⟨rfl, fun x h1 g => by
    by_cases c : x + L ≤ lo
    · exact h.r4 x h1 c g
    · exact hC _ (by omega) (g (x + L - 1) (by omega) (by omega))⟩
theorem first_yes (hL : 0 < L) (h0 : 0 ≤ F) (hs : Sc P hi F L z) (hz : 0 ≤ z) : Ans P F L z := by
  rcases hs with ⟨g1, g2, g3, g4⟩ | ⟨g1, g2⟩
  · exact Or.inl ⟨g1, g3, g4⟩
  · omega
theorem first_no (hL : 0 < L) (h0 : 0 ≤ F) (hF : lo ≤ F) (hF2 : F < hi) (s : Sm P lo hi f l m) (hs : Sc P hi F L z) (hz : z < 0) {r : Int} (h1 : r ≤ l) (h2 : r ≤ hi - F) (h3 : r = l ∨ r = hi - F) : LI P F L hi r := by
  rcases hs with ⟨g1, g2, g3, g4⟩ | ⟨g1, g2⟩
  · omega
  · have := s.l0; have := s.l1
    unfold LI
    refine ⟨by omega, by omega, s.l2.sub (by omega) (by omega), ?_, g2⟩
    by_cases c : r = hi - F
    · exact Or.inl (by omega)
    · obtain rfl : r = l := by omega
      exact Or.inr (s.l3 (by omega))
theorem sc_neg (hs : Sc P hi F L z) (h0 : 0 ≤ F) : 0 ≤ z ∨ z = -1 := by
  rcases hs with ⟨g1, -⟩ | ⟨g1, -⟩ <;> omega
/-! one word: nextFree and runEnd -/
def NfB (q : Int64) (p z : Int) : Prop := p ≤ z ∧ z ≤ 64 ∧ (∀ j : Int, p ≤ j → j < z → bt q j = true) ∧ (z < 64 → bt q z = false)
def ReB (q : Int64) (p z : Int) : Prop := p < z ∧ z ≤ 64 ∧ (∀ j : Int, p < j → j < z → bt q j = false) ∧ (z < 64 → bt q z = true)
/-- from p on taken up to z, which is free or the end -/
def Nf (P : Fr1) (w p z : Int) : Prop := p ≤ z ∧ z ≤ 64 ∧ (∀ j : Int, p ≤ j → j < z → ¬ P (64 * w + j)) ∧ (z < 64 → P (64 * w + z))
def Re (P : Fr1) (w p z : Int) : Prop := p < z ∧ z ≤ 64 ∧ (∀ j : Int, p ≤ j → j < z → P (64 * w + j)) ∧ (z < 64 → ¬ P (64 * w + z))
theorem nf_of (hF : Fre P w q) (h0 : 0 ≤ p) (h : NfB q p z) : Nf P w p z := by
  obtain ⟨h1, h2, h3, h4⟩ := h
  refine ⟨h1, h2, fun j a b r => ?_, fun c => (hF z (by omega) c).mp (h4 c)⟩
  have := (hF j (by omega) (by omega)).mpr r; rw [h3 j a b] at this; cases this
theorem re_of (hF : Fre P w q) (h0 : 0 ≤ p) (hp : P (64 * w + p)) (h : ReB q p z) : Re P w p z := by
  obtain ⟨h1, h2, h3, h4⟩ := h
  refine ⟨h1, h2, fun j a b => ?_, fun c r => ?_⟩
  · by_cases c : j = p
    · rw [c]; exact hp
    · exact (hF j (by omega) (by omega)).mp (h3 j (by omega) b)
  · have := (hF z (by omega) c).mpr r; rw [h4 c] at this; cases this
/-- the loop of summarize: it stands at 'at' -/
def SI (P : Fr1) (w at_ first last most : Int) : Prop := (0 ≤ at_) ∧ (at_ ≤ 64) ∧ (at_ < 64 → P (64 * w + at_)) ∧ (at_ < 64 → at_ = 0 ∨ ¬ P (64 * w + at_ - 1)) ∧ ((at_ = 0 ∧ first = 0) ∨ (0 ≤ first ∧ first ≤ 64 ∧ All P (64 * w) (64 * w + first) ∧ (first < 64 → ¬ P (64 * w + first)))) ∧ ((at_ < 64 ∧ last = 0) ∨ (at_ = 64 ∧ 0 ≤ last ∧ last ≤ 64 ∧ All P (64 * w + 64 - last) (64 * w + 64) ∧ (last < 64 → ¬ P (64 * w + 64 - last - 1)))) ∧ (0 ≤ most) ∧ (most ≤ 64) ∧ (∀ s k, 64 * w ≤ s → s + k ≤ 64 * w + at_ → All P s (s + k) → k ≤ most) ∧ (∃ s, 64 * w ≤ s ∧ s + most ≤ 64 * w + 64 ∧ All P s (s + most))
theorem SI.a0 {P : Fr1} {w at_ first last most : Int} (h : SI P w at_ first last most) : 0 ≤ at_ := h.1
theorem SI.a1 {P : Fr1} {w at_ first last most : Int} (h : SI P w at_ first last most) : at_ ≤ 64 := h.2.1
theorem SI.a2 {P : Fr1} {w at_ first last most : Int} (h : SI P w at_ first last most) : at_ < 64 → P (64 * w + at_) := h.2.2.1
theorem SI.a3 {P : Fr1} {w at_ first last most : Int} (h : SI P w at_ first last most) : at_ < 64 → at_ = 0 ∨ ¬ P (64 * w + at_ - 1) := h.2.2.2.1
theorem SI.fx {P : Fr1} {w at_ first last most : Int} (h : SI P w at_ first last most) : (at_ = 0 ∧ first = 0) ∨ (0 ≤ first ∧ first ≤ 64 ∧ All P (64 * w) (64 * w + first) ∧ (first < 64 → ¬ P (64 * w + first))) := h.2.2.2.2.1
theorem SI.lx {P : Fr1} {w at_ first last most : Int} (h : SI P w at_ first last most) : (at_ < 64 ∧ last = 0) ∨ (at_ = 64 ∧ 0 ≤ last ∧ last ≤ 64 ∧ All P (64 * w + 64 - last) (64 * w + 64) ∧ (last < 64 → ¬ P (64 * w + 64 - last - 1))) := h.2.2.2.2.2.1
theorem SI.m0 {P : Fr1} {w at_ first last most : Int} (h : SI P w at_ first last most) : 0 ≤ most := h.2.2.2.2.2.2.1
theorem SI.m1 {P : Fr1} {w at_ first last most : Int} (h : SI P w at_ first last most) : most ≤ 64 := h.2.2.2.2.2.2.2.1
theorem SI.m2 {P : Fr1} {w at_ first last most : Int} (h : SI P w at_ first last most) : ∀ s k, 64 * w ≤ s → s + k ≤ 64 * w + at_ → All P s (s + k) → k ≤ most := h.2.2.2.2.2.2.2.2.1
theorem SI.m3 {P : Fr1} {w at_ first last most : Int} (h : SI P w at_ first last most) : ∃ s, 64 * w ≤ s ∧ s + most ≤ 64 * w + 64 ∧ All P s (s + most) := h.2.2.2.2.2.2.2.2.2
theorem SI.mk {P : Fr1} {w at_ first last most : Int} (x_a0 : 0 ≤ at_) (x_a1 : at_ ≤ 64) (x_a2 : at_ < 64 → P (64 * w + at_)) (x_a3 : at_ < 64 → at_ = 0 ∨ ¬ P (64 * w + at_ - 1)) (x_f : (at_ = 0 ∧ first = 0) ∨ (0 ≤ first ∧ first ≤ 64 ∧ All P (64 * w) (64 * w + first) ∧ (first < 64 → ¬ P (64 * w + first)))) (x_l : (at_ < 64 ∧ last = 0) ∨ (at_ = 64 ∧ 0 ≤ last ∧ last ≤ 64 ∧ All P (64 * w + 64 - last) (64 * w + 64) ∧ (last < 64 → ¬ P (64 * w + 64 - last - 1)))) (x_m0 : 0 ≤ most) (x_m1 : most ≤ 64) (x_m2 : ∀ s k, 64 * w ≤ s → s + k ≤ 64 * w + at_ → All P s (s + k) → k ≤ most) (x_m3 : ∃ s, 64 * w ≤ s ∧ s + most ≤ 64 * w + 64 ∧ All P s (s + most)) : SI P w at_ first last most := ⟨x_a0, x_a1, x_a2, x_a3, x_f, x_l, x_m0, x_m1, x_m2, x_m3⟩
theorem SI.start (h : Nf P w 0 z) : SI P w z 0 0 0 := by
  obtain ⟨h1, h2, h3, h4⟩ := h
  unfold SI
  refine ⟨h1, h2, h4, fun c => ?_, ?_, ?_, by omega, by omega, fun s k g1 g2 g => ?_, ⟨64 * w, by omega, by omega, fun x _ _ => by omega⟩⟩
  · by_cases e : z = 0
    · exact Or.inl e
    · exact Or.inr (by have := h3 (z - 1) (by omega) (by omega); rwa [show 64 * w + (z - 1) = 64 * w + z - 1 from by omega] at this)
  · by_cases e : z = 0
    · exact Or.inl ⟨e, rfl⟩
    · exact Or.inr ⟨by omega, by omega, fun x _ _ => by omega, fun _ => by have := h3 0 (by omega) (by omega); rwa [Int.add_zero] at this ⊢⟩
  · by_cases e : z < 64
    · exact Or.inl ⟨e, rfl⟩
    · exact Or.inr ⟨by omega, by omega, by omega, fun x _ _ => by omega, fun _ => by have := h3 63 (by omega) (by omega); rwa [show 64 * w + 64 - 0 - 1 = 64 * w + 63 from by omega]⟩
  · refine Int.not_lt.mp fun c => h3 (s - 64 * w) (by omega) (by omega) ?_
    rw [show 64 * w + (s - 64 * w) = s from by omega]; exact g s (by omega) (by omega)
theorem SI.step {a first last most e a' first' last' most' : Int} (h : SI P w a first last most) (ha : a < 64) (he : Re P w a e) (hn : Nf P w e a')
    (hf : a = 0 ∧ first' = e ∨ a ≠ 0 ∧ first' = first) (hl : e = 64 ∧ last' = 64 - a ∨ e ≠ 64 ∧ last' = last) (hm1 : most ≤ most') (hm2 : e - a ≤ most') (hm3 : most' = most ∨ most' = e - a) : SI P w a' first' last' most' := by
  obtain ⟨e1, e2, e3, e4⟩ := he; obtain ⟨n1, n2, n3, n4⟩ := hn
  have := h.a0; have := h.m0; have := h.m1
  have run : All P (64 * w + a) (64 * w + e) := fun x h1 h2 => by have := e3 (x - 64 * w) (by omega) (by omega); rwa [show 64 * w + (x - 64 * w) = x from by omega] at this
  unfold SI
  refine ⟨by omega, n2, n4, fun c => Or.inr ?_, Or.inr ?_, ?_, by omega, by omega, fun s k g1 g2 g => ?_, ?_⟩
  · by_cases q : a' = e
    · exfalso; exact (e4 (by omega)) (q ▸ n4 c)
    · have := n3 (a' - 1) (by omega) (by omega); rwa [show 64 * w + (a' - 1) = 64 * w + a' - 1 from by omega] at this
  · rcases hf with ⟨q, rfl⟩ | ⟨q, rfl⟩
    · exact ⟨by omega, e2, fun x h1 h2 => run x (by omega) h2, e4⟩
    · rcases h.fx with g | g
      · exact absurd g.1 q
      · exact g
  · have hl0 : last = 0 := by rcases h.lx with g | g <;> omega
    by_cases c : a' < 64
    · refine Or.inl ⟨c, ?_⟩
      rcases hl with ⟨q, r⟩ | ⟨q, r⟩ <;> omega
    · refine Or.inr ⟨by omega, by omega, by omega, ?_, ?_⟩
      · rcases hl with ⟨q, rfl⟩ | ⟨q, rfl⟩
        · exact fun x h1 h2 => run x (by omega) (by omega)
        · exact fun x h1 h2 => by omega
      · intro c2
        rcases hl with ⟨q, rfl⟩ | ⟨q, rfl⟩
        · rw [show 64 * w + 64 - (64 - a) - 1 = 64 * w + a - 1 from by omega]
          exact (h.a3 ha).resolve_left (by omega)
        · have := n3 63 (by omega) (by omega); rw [hl0]; rwa [show 64 * w + 64 - 0 - 1 = 64 * w + 63 from by omega]
  · by_cases k0 : k ≤ 0
    · omega
    · have c1 : s + k ≤ 64 * w + e := Int.not_lt.mp fun c => n3 (s + k - 1 - 64 * w) (by omega) (by omega) (by rw [show 64 * w + (s + k - 1 - 64 * w) = s + k - 1 from by omega]; exact g _ (by omega) (by omega))
      by_cases c2 : s + k ≤ 64 * w + a
      · have := h.m2 s k g1 c2 g; omega
      · by_cases c3 : 64 * w + a ≤ s
        · omega
        · exact absurd (g (64 * w + a - 1) (by omega) (by omega)) ((h.a3 ha).resolve_left (by omega))
  · rcases hm3 with rfl | rfl
    · exact h.m3
    · exact ⟨64 * w + a, by omega, by omega, run.sub (by omega) (by omega)⟩
theorem SI.fin {a first last most : Int} (h : SI P w a first last most) (ha : 64 ≤ a) : Sm P (64 * w) (64 * w + 64) first last most := by
  have := h.a1; have e : a = 64 := by omega
  subst e
  have hf := h.fx.resolve_left (by omega); have hl := h.lx.resolve_left (by omega)
  exact ⟨hf.1, by omega, hf.2.2.1, fun c => hf.2.2.2 (by omega), hl.2.1, by omega, hl.2.2.2.1, fun c => hl.2.2.2.2 (by omega), h.m0, by have := h.m1; omega, h.m2, h.m3⟩
/-- the loop of scan -/
def CI (P : Fr1) (w st L at_ : Int) : Prop := (st ≤ at_) ∧ (at_ ≤ 64) ∧ (at_ < 64 → P (64 * w + at_)) ∧ (∀ s, 64 * w + st ≤ s → s < 64 * w + at_ → s + L ≤ 64 * w + 64 → ¬ All P s (s + L))
theorem CI.a0 {P : Fr1} {w st L at_ : Int} (h : CI P w st L at_) : st ≤ at_ := h.1
theorem CI.a1 {P : Fr1} {w st L at_ : Int} (h : CI P w st L at_) : at_ ≤ 64 := h.2.1
theorem CI.a2 {P : Fr1} {w st L at_ : Int} (h : CI P w st L at_) : at_ < 64 → P (64 * w + at_) := h.2.2.1
theorem CI.n {P : Fr1} {w st L at_ : Int} (h : CI P w st L at_) : ∀ s, 64 * w + st ≤ s → s < 64 * w + at_ → s + L ≤ 64 * w + 64 → ¬ All P s (s + L) := h.2.2.2
theorem CI.mk {P : Fr1} {w st L at_ : Int} (x_a0 : st ≤ at_) (x_a1 : at_ ≤ 64) (x_a2 : at_ < 64 → P (64 * w + at_)) (x_n : ∀ s, 64 * w + st ≤ s → s < 64 * w + at_ → s + L ≤ 64 * w + 64 → ¬ All P s (s + L)) : CI P w st L at_ := ⟨x_a0, x_a1, x_a2, x_n⟩
theorem CI.start {st : Int} (hL : 0 < L) (h : Nf P w st z) : CI P w st L z := by
  obtain ⟨h1, h2, h3, h4⟩ := h
  exact ⟨h1, h2, h4, fun s g1 g2 g3 g => h3 (s - 64 * w) (by omega) (by omega) (by rw [show 64 * w + (s - 64 * w) = s from by omega]; exact g s (by omega) (by omega))⟩
theorem CI.found {st a e : Int} (hL : 0 < L) (h : CI P w st L a) (ha : a < 64) (he : Re P w a e) (hc : L ≤ e - a) : Sc P (64 * w + 64) (64 * w + st) L (64 * w + a) := by
  obtain ⟨e1, e2, e3, e4⟩ := he; have := h.a0
  refine Or.inl ⟨by omega, by omega, fun x h1 h2 => ?_, fun s g1 g2 g => h.n s g1 g2 (by omega) g⟩
  have := e3 (x - 64 * w) (by omega) (by omega); rwa [show 64 * w + (x - 64 * w) = x from by omega] at this
theorem CI.step {st a e a' : Int} (hL : 0 < L) (h : CI P w st L a) (ha : a < 64) (he : Re P w a e) (hn : Nf P w e a') (hc : e - a < L) : CI P w st L a' := by
  obtain ⟨e1, e2, e3, e4⟩ := he; obtain ⟨n1, n2, n3, n4⟩ := hn; have := h.a0
  unfold CI
  refine ⟨by omega, n2, n4, fun s g1 g2 g3 g => ?_⟩
  by_cases c : s < 64 * w + a
  · exact h.n s g1 c g3 g
  · by_cases c2 : s < 64 * w + e
    · by_cases c3 : e < 64
      · exact e4 c3 (g _ (by omega) (by omega))
      · omega
    · exact n3 (s - 64 * w) (by omega) (by omega) (by rw [show 64 * w + (s - 64 * w) = s from by omega]; exact g s (by omega) (by omega))
theorem CI.fin {st a : Int} (h : CI P w st L a) (hL : 0 < L) (ha : 64 ≤ a) : Sc P (64 * w + 64) (64 * w + st) L (-1) :=
  Or.inr ⟨rfl, fun s g1 g2 g => h.n s g1 (by omega) g2 g⟩
/-! the row -/
def P0 (C : Int) : Fr1 := fun x => x < C
def P1 (A B C : Int) : Fr1 := fun x => x < A ∨ B ≤ x ∧ x < C
def Ex (A B C F L z : Int) : Prop :=
  (F + L ≤ A ∧ z = F) ∨ (A < F + L ∧ F ≤ B ∧ B + L ≤ C ∧ z = B) ∨ (A < F + L ∧ B < F ∧ F + L ≤ C ∧ z = F) ∨ (A < F + L ∧ (C < B + L ∨ C < F + L) ∧ z = -1)
theorem ans_ex {A B C : Int} (hL : 0 < L) (h0 : 0 ≤ F) (hAB : A < B) (hBC : B ≤ C) (h : Ans (P1 A B C) F L z) {y : Int} (hy : Ex A B C F L y) : z = y := by
  have yes : ∀ s : Int, (s + L ≤ A ∨ B ≤ s ∧ s + L ≤ C) → All (P1 A B C) s (s + L) := fun s h x h1 h2 => by unfold P1; omega
  have no : ∀ s : Int, All (P1 A B C) s (s + L) → (s + L ≤ A ∨ B ≤ s ∧ s + L ≤ C) := fun s g => by
    have g1 := g s (by omega) (by omega); have g2 := g (s + L - 1) (by omega) (by omega); have g3 := g A; unfold P1 at g1 g2 g3; omega
  rcases h with ⟨h1, h2, h3⟩ | ⟨h1, h2⟩
  · have k := no z h2
    have k3 : ∀ s, F ≤ s → s < z → ¬ (s + L ≤ A ∨ B ≤ s ∧ s + L ≤ C) := fun s a b c => h3 s a b (yes s c)
    have k4 := k3 F; have k5 := k3 B; unfold Ex at hy; clear yes no h3 k3; omega
  · have k3 : ∀ s, F ≤ s → ¬ (s + L ≤ A ∨ B ≤ s ∧ s + L ≤ C) := fun s a c => h2 s a (yes s c)
    have k4 := k3 F; have k5 := k3 B; unfold Ex at hy; clear yes no h2 k3; omega
end Plain

/-! bits -/
section Bits
theorem p64 {p : Int32} (h0 : 0 ≤ p.toInt) (h1 : p.toInt < 64) : ∃ n : Fin 64, p = Int32.ofNat n.1 ∧ p.toInt = n.1 := by
  refine ⟨⟨p.toInt.toNat, by omega⟩, ?_, by simp only; omega⟩
  apply Int32.toInt_inj.mp
  rw [Int32.toInt_ofNat_of_lt (by simp only; omega)]; simp only; omega
theorem sh1 : ∀ n : Fin 64, (Int32.ofNat n.1 &&& 0x3f).toInt64.toUInt64.toBitVec.toNat % 64 = n.1 := by decide +kernel
theorem sh2 : ∀ n : Fin 64, ((Int32.ofNat n.1 &&& 0x3f).toInt64.toBitVec.smod 64).toNat = n.1 := by decide +kernel
theorem ushr_bit (x : Int64) {p : Int32} (h0 : 0 ≤ p.toInt) (h1 : p.toInt < 64) {j : Int} (hj : 0 ≤ j) : bt ((x.toUInt64 >>> (p &&& 0x3f).toInt64.toUInt64).toInt64) j = bt x (j + p.toInt) := by
  obtain ⟨n, rfl, e⟩ := p64 h0 h1
  have s := sh1 n
  unfold bt
  rw [e, show (j + (n.1 : Int)).toNat = n.1 + j.toNat from by omega]
  show (x.toBitVec >>> ((Int32.ofNat n.1 &&& 0x3f).toInt64.toUInt64.toBitVec % 64)).getLsbD j.toNat = _
  show (x.toBitVec >>> ((Int32.ofNat n.1 &&& 0x3f).toInt64.toUInt64.toBitVec % 64).toNat).getLsbD j.toNat = _
  rw [BitVec.toNat_umod, show (64 : BitVec 64).toNat = 64 from rfl, s, BitVec.getLsbD_ushiftRight]
theorem shl_bit (x : Int64) {p : Int32} (h0 : 0 ≤ p.toInt) (h1 : p.toInt < 64) {j : Int} (hj : 0 ≤ j) (hj2 : j < 64) : bt (x <<< (p &&& 0x3f).toInt64) j = (decide (p.toInt ≤ j) && bt x (j - p.toInt)) := by
  obtain ⟨n, rfl, e⟩ := p64 h0 h1
  have s := sh2 n
  unfold bt
  rw [e, Int64.toBitVec_shiftLeft, BitVec.shiftLeft_eq', s, BitVec.getLsbD_shiftLeft]
  by_cases c : (n.1 : Int) ≤ j
  · rw [decide_eq_true (show j.toNat < 64 by omega), decide_eq_false (show ¬ j.toNat < n.1 by omega), decide_eq_true c, show (j - (n.1 : Int)).toNat = j.toNat - n.1 from by omega]; rfl
  · rw [decide_eq_true (show j.toNat < n.1 by omega), decide_eq_false c]; simp
theorem m1_bit {j : Int} (hj : 0 ≤ j) (hj2 : j < 64) : bt (-1) j = true := by
  have : ∀ j : Fin 64, (-1 : Int64).toBitVec.getLsbD j.1 = true := by decide
  exact this ⟨j.toNat, by omega⟩
theorem m1_out {j : Int} (hj : 64 ≤ j) (q : Int64) : bt q j = false := by
  unfold bt; exact BitVec.getLsbD_of_ge _ _ (by omega)
theorem xor_bit (q : Int64) {j : Int} (hj : 0 ≤ j) (hj2 : j < 64) : bt (q ^^^ (-1)) j = !bt q j := by
  have := m1_bit hj hj2
  unfold bt at *; rw [Int64.toBitVec_xor, BitVec.getLsbD_xor, this]; simp
theorem or_bit (q r : Int64) (j : Int) : bt (q ||| r) j = (bt q j || bt r j) := by
  unfold bt; rw [Int64.toBitVec_or, BitVec.getLsbD_or]
theorem zero_bit (j : Int) : bt 0 j = false := by unfold bt; simp
theorem zero_of {q : Int64} (h : ∀ j : Int, 0 ≤ j → j < 64 → bt q j = false) : q = 0 := by
  apply Int64.toBitVec_inj.mp
  apply BitVec.eq_of_getLsbD_eq
  intro j hj
  have := h j (by omega) (by omega)
  unfold bt at this; simp at this ⊢; exact this
theorem fre_full {C w : Int} (h : C ≤ 64 * w) : Fre (P0 C) w (-1) := fun j h0 h1 => by rw [m1_bit h0 h1]; unfold P0; simp; omega
theorem fre_free {C w : Int} (h : 64 * w + 64 ≤ C) : Fre (P0 C) w 0 := fun j h0 h1 => by rw [zero_bit]; unfold P0; simp; omega
theorem fre_part {C w : Int} {p : Int32} (hp : p.toInt = C - 64 * w) (h0 : 0 ≤ p.toInt) (h1 : p.toInt < 64) : Fre (P0 C) w ((-1 : Int64) <<< (p &&& 0x3f).toInt64) := fun j g0 g1 => by
  rw [shl_bit _ h0 h1 g0 g1]
  by_cases c : p.toInt ≤ j
  · rw [decide_eq_true c, m1_bit (by omega) (by omega)]; unfold P0; simp; omega
  · rw [decide_eq_false c]; unfold P0; simp; omega
/-- take's mask -/
theorem fre_take {A B C w : Int} {q : Int64} {u v d : Int32} (hF : Fre (P0 C) w q) (hBC : B ≤ C) (hAB : A < B) (u0 : 0 ≤ u.toInt) (uv : u.toInt ≤ v.toInt) (v1 : v.toInt < 64) (hd : d.toInt = 63 - v.toInt + u.toInt)
    (hu : u.toInt = A - 64 * w ∨ u.toInt = 0 ∧ A ≤ 64 * w) (hv : v.toInt = B - 1 - 64 * w ∨ v.toInt = 63 ∧ 64 * w + 64 ≤ B) : Fre (P1 A B C) w (q ||| (((-1 : Int64).toUInt64 >>> (d &&& 0x3f).toInt64.toUInt64).toInt64) <<< (u &&& 0x3f).toInt64) := fun j g0 g1 => by
  rw [or_bit, shl_bit _ u0 (by omega) g0 g1]
  have k := hF j g0 g1
  unfold P0 at k; unfold P1
  by_cases c : u.toInt ≤ j
  · rw [decide_eq_true c, ushr_bit _ (by omega) (by omega) (by omega)]
    by_cases c2 : j ≤ v.toInt
    · rw [m1_bit (by omega) (by omega)]; simp; omega
    · rw [m1_out (j := j - u.toInt + d.toInt) (by omega)]; simp only [Bool.and_false, Bool.or_false, k]; omega
  · rw [decide_eq_false c]; simp only [Bool.false_and, Bool.or_false, k]; omega
theorem fre_out {A B C w : Int} {q : Int64} (hF : Fre (P0 C) w q) (hBC : B ≤ C) (hAB : A < B) (h : 64 * w + 64 ≤ A ∨ B ≤ 64 * w) : Fre (P1 A B C) w q := fun j g0 g1 => by
  rw [hF j g0 g1]; unfold P0 P1; omega
theorem sm_out {A B C lo hi f l m : Int} (s : Sm (P0 C) lo hi f l m) (hBC : B ≤ C) (hAB : A < B) (h : hi ≤ A ∨ B ≤ lo) : Sm (P1 A B C) lo hi f l m := s.congr fun x h1 h2 => by unfold P0 P1; omega
end Bits

section Bits2
theorem nfb1 {q y : Int64} {p : Int32} (h0 : 0 ≤ p.toInt) (h1 : p.toInt < 64) (hy : ((q ^^^ (-1)).toUInt64 >>> (p &&& 0x3f).toInt64.toUInt64).toInt64 = y) {t : Nat} (ht : ∀ j : Int, 0 ≤ j → j < t → bt y j = false) (ht2 : bt y t = true) : NfB q p.toInt (p.toInt + t) := by
  have b : ∀ j : Int, 0 ≤ j → bt y j = bt (q ^^^ (-1)) (j + p.toInt) := fun j hj => by rw [← hy]; exact ushr_bit _ h0 h1 hj
  have lt : (t : Int) + p.toInt < 64 := Int.not_le.mp fun c => by rw [b _ (by omega), m1_out c] at ht2; cases ht2
  refine ⟨by omega, by omega, fun j a c => ?_, fun c => ?_⟩
  · have := ht (j - p.toInt) (by omega) (by omega)
    rw [b _ (by omega), show j - p.toInt + p.toInt = j from by omega, xor_bit _ (by omega) (by omega)] at this
    simpa using this
  · rw [b _ (by omega), xor_bit _ (by omega) (by omega)] at ht2
    rw [show p.toInt + (t : Int) = t + p.toInt from by omega]; simpa using ht2
theorem nfb0 {q y : Int64} {p : Int32} (h0 : 0 ≤ p.toInt) (h1 : p.toInt < 64) (hy : ((q ^^^ (-1)).toUInt64 >>> (p &&& 0x3f).toInt64.toUInt64).toInt64 = y) (hz : y = 0) : NfB q p.toInt 64 := by
  refine ⟨by omega, by omega, fun j a c => ?_, fun c => by omega⟩
  have b := ushr_bit (q ^^^ (-1)) h0 h1 (j := j - p.toInt) (by omega)
  rw [hy, hz, zero_bit, show j - p.toInt + p.toInt = j from by omega, xor_bit _ (by omega) (by omega)] at b
  simpa using b.symm
theorem nfb64 {q : Int64} {p : Int} (h : p = 64) : NfB q p 64 := ⟨by omega, by omega, fun j a c => by omega, fun c => by omega⟩
theorem reb1 {q y : Int64} {p : Int32} {r : Int} (h0 : 0 ≤ p.toInt) (h1 : p.toInt < 64) (hr : p.toInt = r + 1) (hy : (q.toUInt64 >>> (p &&& 0x3f).toInt64.toUInt64).toInt64 = y) {t : Nat} (ht : ∀ j : Int, 0 ≤ j → j < t → bt y j = false) (ht2 : bt y t = true) : ReB q r (p.toInt + t) := by
  have b : ∀ j : Int, 0 ≤ j → bt y j = bt q (j + p.toInt) := fun j hj => by rw [← hy]; exact ushr_bit _ h0 h1 hj
  have lt : (t : Int) + p.toInt < 64 := Int.not_le.mp fun c => by rw [b _ (by omega), m1_out c] at ht2; cases ht2
  refine ⟨by omega, by omega, fun j a c => ?_, fun c => ?_⟩
  · have := ht (j - p.toInt) (by omega) (by omega)
    rwa [b _ (by omega), show j - p.toInt + p.toInt = j from by omega] at this
  · rw [b _ (by omega)] at ht2
    rwa [show p.toInt + (t : Int) = t + p.toInt from by omega]
theorem reb0 {q y : Int64} {p : Int32} {r : Int} (h0 : 0 ≤ p.toInt) (h1 : p.toInt < 64) (hr : p.toInt = r + 1) (hy : (q.toUInt64 >>> (p &&& 0x3f).toInt64.toUInt64).toInt64 = y) (hz : y = 0) : ReB q r 64 := by
  refine ⟨by omega, by omega, fun j a c => ?_, fun c => by omega⟩
  have b := ushr_bit q h0 h1 (j := j - p.toInt) (by omega)
  rw [hy, hz, zero_bit, show j - p.toInt + p.toInt = j from by omega] at b
  exact b.symm
theorem reb64 {q : Int64} {r : Int} (h : r = 63) : ReB q r 64 := ⟨by omega, by omega, fun j a c => by omega, fun c => by omega⟩
end Bits2

theorem ntz_spec {y : Int64} (h : y ≠ 0) : ∃ t : Nat, t < 64 ∧ Jvm.Free.JP.Long_numberOfTrailingZeros_J.val y = Int32.ofNat t ∧ (∀ j : Int, 0 ≤ j → j < t → bt y j = false) ∧ bt y t = true := by
  obtain ⟨t, ht⟩ := Jvm.Free.JM.low_ex y.toBitVec.toNat (fun e => h (Int64.toBitVec_inj.mp (BitVec.eq_of_toNat_eq (by rw [e]; rfl))))
  refine ⟨t, ht.lt y.toBitVec.isLt, Jvm.Free.JM.ntz64 ht, fun j h0 h1 => ?_, ?_⟩
  · exact ht.below (j := j.toNat) (by omega)
  · exact ht.at
theorem ofNat_toInt {t : Nat} (h : t < 64) : (Int32.ofNat t).toInt = t := Int32.toInt_ofNat_of_lt (by omega)

theorem addE {x y : Int32} {a b : Int} (hx : x.toInt = a) (hy : y.toInt = b) (h : -2147483648 ≤ a + b ∧ a + b < 2147483648) : (x + y).toInt = a + b := by
  have e := c_iadd x y; have r := rng32 (x + y); omega
theorem subE {x y : Int32} {a b : Int} (hx : x.toInt = a) (hy : y.toInt = b) (h : -2147483648 ≤ a - b ∧ a - b < 2147483648) : (x - y).toInt = a - b := by
  have e := c_isub x y; have r := rng32 (x - y); omega
theorem mulE {x y : Int32} {a b : Int} (hx : x.toInt = a) (hy : y.toInt = b) (h : -2147483648 ≤ a * b ∧ a * b < 2147483648) : (x * y).toInt = a * b := by
  have e := c_imul x y; have r := rng32 (x * y); rw [hx, hy] at e; omega
theorem lcmp_ne {x : Int64} (h : (lcmpW x (0 : Int64)).toInt ≠ 0) : x ≠ 0 := fun e => by subst e; exact h rfl
theorem lcmp_eq {x : Int64} (h : ¬ (lcmpW x (0 : Int64)).toInt ≠ 0) : x = 0 := by
  have e := c_lcmp x 0; have z : (0 : Int64).toInt = 0 := rfl
  apply Int64.toInt_inj.mp; omega
theorem or0 (q : Int64) : q ||| (0 : Int64) = q := by simp
theorem notneg {x : Int32} (h : 0 ≤ x.toInt) : ¬ x < 0 := by rw [Int32.lt_iff_toInt_lt]; exact Int.not_lt.mpr h
theorem i32_of {x y : Int32} {k : Int} (h : x.toInt = k) (hy : y.toInt = k) : x = y := Int32.toInt_inj.mp (h.trans hy.symm)

theorem tab_nlz {Z : State} {a0 : Array Value} (hw : ∀ d ∈ tables_1, d.before a0 Z = true) (args : Array Value) (s : State) (hZ : Z.Warmed39 s.vm) : (XT.tabOf Jvm.Free.JP.Integer_numberOfLeadingZeros_I.yN Jvm.Free.JP.Integer_numberOfLeadingZeros_I.yB 2 (some .int) Jvm.Free.JP.Integer_numberOfLeadingZeros_I.site).before args s = true :=
  XT.unparts (mvT hZ (wd hw 25 rfl)) (List.forall_mem_cons.mpr ⟨(mvT hZ (wd hw 20 rfl)), List.forall_mem_cons.mpr ⟨(mvT hZ (wd hw 26 rfl)), fun _ h => (nomatch h)⟩⟩)
theorem tab_ntzI {Z : State} {a0 : Array Value} (hw : ∀ d ∈ tables_1, d.before a0 Z = true) (args : Array Value) (s : State) (hZ : Z.Warmed39 s.vm) : Jvm.Free.JP.Integer_numberOfTrailingZeros_I.tab.before args s = true :=
  XT.unparts (mvT hZ (wd hw 58 rfl)) (List.forall_mem_cons.mpr ⟨(mvT hZ (wd hw 20 rfl)), List.forall_mem_cons.mpr ⟨(mvT hZ (wd hw 26 rfl)), fun _ h => (nomatch h)⟩⟩)
theorem tab_ntz {Z : State} {a0 : Array Value} (hw : ∀ d ∈ tables_1, d.before a0 Z = true) (args : Array Value) (s : State) (hZ : Z.Warmed39 s.vm) : (XT.tabOf Jvm.Free.JP.Long_numberOfTrailingZeros_J.yN Jvm.Free.JP.Long_numberOfTrailingZeros_J.yB 3 (some .int) Jvm.Free.JP.Long_numberOfTrailingZeros_J.site).before args s = true :=
  XT.unparts (mvT hZ (wd hw 55 rfl)) (List.forall_mem_cons.mpr ⟨(mvT hZ (wd hw 54 rfl)), List.forall_mem_cons.mpr ⟨tab_ntzI hw args s hZ, List.forall_mem_cons.mpr ⟨(mvT hZ (wd hw 56 rfl)), List.forall_mem_cons.mpr ⟨(mvT hZ (wd hw 57 rfl)), fun _ h => (nomatch h)⟩⟩⟩⟩)
theorem tab_hob {Z : State} {a0 : Array Value} (hw : ∀ d ∈ tables_1, d.before a0 Z = true) (args : Array Value) (s : State) (hZ : Z.Warmed39 s.vm) : (XT.tabOf Jvm.Free.JP.Integer_highestOneBit_I.yN Jvm.Free.JP.Integer_highestOneBit_I.yB 1 (some .int) Jvm.Free.JP.Integer_highestOneBit_I.site).before args s = true :=
  XT.unparts (mvT hZ (wd hw 21 rfl)) (List.forall_mem_cons.mpr ⟨(mvT hZ (wd hw 20 rfl)), List.forall_mem_cons.mpr ⟨(mvT hZ (wd hw 22 rfl)), List.forall_mem_cons.mpr ⟨tab_nlz hw args s hZ, List.forall_mem_cons.mpr ⟨(mvT hZ (wd hw 23 rfl)), List.forall_mem_cons.mpr ⟨(mvT hZ (wd hw 24 rfl)), fun _ h => (nomatch h)⟩⟩⟩⟩⟩)
abbrev M7 (a1 a2 a3 a4 a5 a6 a7 : Addr) (p2 : Int32) (v91 v92 v93 v94 v95 v96 : List Value) : Mem := [ob a1 "com/example/clauseline/clauseline/service/TakenPieces" [("com/example/clauseline/clauseline/service/TakenPieces", "words", "I", (.int p2)), ("com/example/clauseline/clauseline/service/TakenPieces", "taken", "[J", (.ref a2)), ("com/example/clauseline/clauseline/service/TakenPieces", "splits", "[J", (.ref a3)), ("com/example/clauseline/clauseline/service/TakenPieces", "prefix", "[I", (.ref a4)), ("com/example/clauseline/clauseline/service/TakenPieces", "suffix", "[I", (.ref a5)), ("com/example/clauseline/clauseline/service/TakenPieces", "longest", "[I", (.ref a6)), ("com/example/clauseline/clauseline/service/TakenPieces", "stale", "[Z", (.ref a7))], ar a2 .long v91, ar a3 .long v92, ar a4 .int v93, ar a5 .int v94, ar a6 .int v95, ar a7 .boolean v96]
abbrev M1 (a1 a2 a3 a4 a5 a6 a7 : Addr) (q0 : Int64) (z101 z201 z301 : Int32) : Mem := [ob a1 "com/example/clauseline/clauseline/service/TakenPieces" [("com/example/clauseline/clauseline/service/TakenPieces", "words", "I", (.int (1 : Int32))), ("com/example/clauseline/clauseline/service/TakenPieces", "taken", "[J", (.ref a2)), ("com/example/clauseline/clauseline/service/TakenPieces", "splits", "[J", (.ref a3)), ("com/example/clauseline/clauseline/service/TakenPieces", "prefix", "[I", (.ref a4)), ("com/example/clauseline/clauseline/service/TakenPieces", "suffix", "[I", (.ref a5)), ("com/example/clauseline/clauseline/service/TakenPieces", "longest", "[I", (.ref a6)), ("com/example/clauseline/clauseline/service/TakenPieces", "stale", "[Z", (.ref a7))], ar a2 .long [.long q0], ar a3 .long [.long (0 : Int64)], ar a4 .int [.int (0 : Int32), .int z101], ar a5 .int [.int (0 : Int32), .int z201], ar a6 .int [.int (0 : Int32), .int z301], ar a7 .boolean [.int (0 : Int32)]]
abbrev M2 (a1 a2 a3 a4 a5 a6 a7 : Addr) (q0 q1 : Int64) (z101 z201 z301 z102 z202 z302 z103 z203 z303 z401 : Int32) : Mem := [ob a1 "com/example/clauseline/clauseline/service/TakenPieces" [("com/example/clauseline/clauseline/service/TakenPieces", "words", "I", (.int (2 : Int32))), ("com/example/clauseline/clauseline/service/TakenPieces", "taken", "[J", (.ref a2)), ("com/example/clauseline/clauseline/service/TakenPieces", "splits", "[J", (.ref a3)), ("com/example/clauseline/clauseline/service/TakenPieces", "prefix", "[I", (.ref a4)), ("com/example/clauseline/clauseline/service/TakenPieces", "suffix", "[I", (.ref a5)), ("com/example/clauseline/clauseline/service/TakenPieces", "longest", "[I", (.ref a6)), ("com/example/clauseline/clauseline/service/TakenPieces", "stale", "[Z", (.ref a7))], ar a2 .long [.long q0, .long q1], ar a3 .long [.long (0 : Int64), .long (0 : Int64)], ar a4 .int [.int (0 : Int32), .int z101, .int z102, .int z103], ar a5 .int [.int (0 : Int32), .int z201, .int z202, .int z203], ar a6 .int [.int (0 : Int32), .int z301, .int z302, .int z303], ar a7 .boolean [.int (0 : Int32), .int z401]]
abbrev M4 (a1 a2 a3 a4 a5 a6 a7 : Addr) (q0 q1 q2 q3 : Int64) (z101 z201 z301 z102 z202 z302 z103 z203 z303 z104 z204 z304 z105 z205 z305 z106 z206 z306 z107 z207 z307 z401 z402 z403 : Int32) : Mem := [ob a1 "com/example/clauseline/clauseline/service/TakenPieces" [("com/example/clauseline/clauseline/service/TakenPieces", "words", "I", (.int (4 : Int32))), ("com/example/clauseline/clauseline/service/TakenPieces", "taken", "[J", (.ref a2)), ("com/example/clauseline/clauseline/service/TakenPieces", "splits", "[J", (.ref a3)), ("com/example/clauseline/clauseline/service/TakenPieces", "prefix", "[I", (.ref a4)), ("com/example/clauseline/clauseline/service/TakenPieces", "suffix", "[I", (.ref a5)), ("com/example/clauseline/clauseline/service/TakenPieces", "longest", "[I", (.ref a6)), ("com/example/clauseline/clauseline/service/TakenPieces", "stale", "[Z", (.ref a7))], ar a2 .long [.long q0, .long q1, .long q2, .long q3], ar a3 .long [.long (0 : Int64), .long (0 : Int64), .long (0 : Int64), .long (0 : Int64)], ar a4 .int [.int (0 : Int32), .int z101, .int z102, .int z103, .int z104, .int z105, .int z106, .int z107], ar a5 .int [.int (0 : Int32), .int z201, .int z202, .int z203, .int z204, .int z205, .int z206, .int z207], ar a6 .int [.int (0 : Int32), .int z301, .int z302, .int z303, .int z304, .int z305, .int z306, .int z307], ar a7 .boolean [.int (0 : Int32), .int z401, .int z402, .int z403]]
def Inv1 (P : Fr1) (q0 : Int64) (z101 z201 z301 : Int32) : Prop := (Fre P 0 q0) ∧ (Sm P 0 64 z101.toInt z201.toInt z301.toInt)
theorem Inv1.e0 {P : Fr1} {q0 : Int64} {z101 z201 z301 : Int32} (h : Inv1 P q0 z101 z201 z301) : Fre P 0 q0 := h.1
theorem Inv1.s1 {P : Fr1} {q0 : Int64} {z101 z201 z301 : Int32} (h : Inv1 P q0 z101 z201 z301) : Sm P 0 64 z101.toInt z201.toInt z301.toInt := h.2
theorem Inv1.mk {P : Fr1} {q0 : Int64} {z101 z201 z301 : Int32} (x_e0 : Fre P 0 q0) (x_s1 : Sm P 0 64 z101.toInt z201.toInt z301.toInt) : Inv1 P q0 z101 z201 z301 := ⟨x_e0, x_s1⟩
def Inv2 (P : Fr1) (q0 q1 : Int64) (z101 z201 z301 z102 z202 z302 z103 z203 z303 z401 : Int32) : Prop := (Fre P 0 q0) ∧ (Fre P 1 q1) ∧ (Sm P 0 64 z102.toInt z202.toInt z302.toInt) ∧ (Sm P 64 128 z103.toInt z203.toInt z303.toInt) ∧ (z401.toInt = 0 → Sm P 0 128 z101.toInt z201.toInt z301.toInt)
theorem Inv2.e0 {P : Fr1} {q0 q1 : Int64} {z101 z201 z301 z102 z202 z302 z103 z203 z303 z401 : Int32} (h : Inv2 P q0 q1 z101 z201 z301 z102 z202 z302 z103 z203 z303 z401) : Fre P 0 q0 := h.1
theorem Inv2.e1 {P : Fr1} {q0 q1 : Int64} {z101 z201 z301 z102 z202 z302 z103 z203 z303 z401 : Int32} (h : Inv2 P q0 q1 z101 z201 z301 z102 z202 z302 z103 z203 z303 z401) : Fre P 1 q1 := h.2.1
theorem Inv2.s2 {P : Fr1} {q0 q1 : Int64} {z101 z201 z301 z102 z202 z302 z103 z203 z303 z401 : Int32} (h : Inv2 P q0 q1 z101 z201 z301 z102 z202 z302 z103 z203 z303 z401) : Sm P 0 64 z102.toInt z202.toInt z302.toInt := h.2.2.1
theorem Inv2.s3 {P : Fr1} {q0 q1 : Int64} {z101 z201 z301 z102 z202 z302 z103 z203 z303 z401 : Int32} (h : Inv2 P q0 q1 z101 z201 z301 z102 z202 z302 z103 z203 z303 z401) : Sm P 64 128 z103.toInt z203.toInt z303.toInt := h.2.2.2.1
theorem Inv2.k1 {P : Fr1} {q0 q1 : Int64} {z101 z201 z301 z102 z202 z302 z103 z203 z303 z401 : Int32} (h : Inv2 P q0 q1 z101 z201 z301 z102 z202 z302 z103 z203 z303 z401) : z401.toInt = 0 → Sm P 0 128 z101.toInt z201.toInt z301.toInt := h.2.2.2.2
theorem Inv2.mk {P : Fr1} {q0 q1 : Int64} {z101 z201 z301 z102 z202 z302 z103 z203 z303 z401 : Int32} (x_e0 : Fre P 0 q0) (x_e1 : Fre P 1 q1) (x_s2 : Sm P 0 64 z102.toInt z202.toInt z302.toInt) (x_s3 : Sm P 64 128 z103.toInt z203.toInt z303.toInt) (x_k1 : z401.toInt = 0 → Sm P 0 128 z101.toInt z201.toInt z301.toInt) : Inv2 P q0 q1 z101 z201 z301 z102 z202 z302 z103 z203 z303 z401 := ⟨x_e0, x_e1, x_s2, x_s3, x_k1⟩
def Inv4 (P : Fr1) (q0 q1 q2 q3 : Int64) (z101 z201 z301 z102 z202 z302 z103 z203 z303 z104 z204 z304 z105 z205 z305 z106 z206 z306 z107 z207 z307 z401 z402 z403 : Int32) : Prop := (Fre P 0 q0) ∧ (Fre P 1 q1) ∧ (Fre P 2 q2) ∧ (Fre P 3 q3) ∧ (Sm P 0 64 z104.toInt z204.toInt z304.toInt) ∧ (Sm P 64 128 z105.toInt z205.toInt z305.toInt) ∧ (Sm P 128 192 z106.toInt z206.toInt z306.toInt) ∧ (Sm P 192 256 z107.toInt z207.toInt z307.toInt) ∧ (z401.toInt = 0 → Sm P 0 256 z101.toInt z201.toInt z301.toInt ∧ Sm P 0 128 z102.toInt z202.toInt z302.toInt ∧ Sm P 128 256 z103.toInt z203.toInt z303.toInt) ∧ (z402.toInt = 0 → Sm P 0 128 z102.toInt z202.toInt z302.toInt) ∧ (z403.toInt = 0 → Sm P 128 256 z103.toInt z203.toInt z303.toInt)
theorem Inv4.e0 {P : Fr1} {q0 q1 q2 q3 : Int64} {z101 z201 z301 z102 z202 z302 z103 z203 z303 z104 z204 z304 z105 z205 z305 z106 z206 z306 z107 z207 z307 z401 z402 z403 : Int32} (h : Inv4 P q0 q1 q2 q3 z101 z201 z301 z102 z202 z302 z103 z203 z303 z104 z204 z304 z105 z205 z305 z106 z206 z306 z107 z207 z307 z401 z402 z403) : Fre P 0 q0 := h.1
theorem Inv4.e1 {P : Fr1} {q0 q1 q2 q3 : Int64} {z101 z201 z301 z102 z202 z302 z103 z203 z303 z104 z204 z304 z105 z205 z305 z106 z206 z306 z107 z207 z307 z401 z402 z403 : Int32} (h : Inv4 P q0 q1 q2 q3 z101 z201 z301 z102 z202 z302 z103 z203 z303 z104 z204 z304 z105 z205 z305 z106 z206 z306 z107 z207 z307 z401 z402 z403) : Fre P 1 q1 := h.2.1
theorem Inv4.e2 {P : Fr1} {q0 q1 q2 q3 : Int64} {z101 z201 z301 z102 z202 z302 z103 z203 z303 z104 z204 z304 z105 z205 z305 z106 z206 z306 z107 z207 z307 z401 z402 z403 : Int32} (h : Inv4 P q0 q1 q2 q3 z101 z201 z301 z102 z202 z302 z103 z203 z303 z104 z204 z304 z105 z205 z305 z106 z206 z306 z107 z207 z307 z401 z402 z403) : Fre P 2 q2 := h.2.2.1
theorem Inv4.e3 {P : Fr1} {q0 q1 q2 q3 : Int64} {z101 z201 z301 z102 z202 z302 z103 z203 z303 z104 z204 z304 z105 z205 z305 z106 z206 z306 z107 z207 z307 z401 z402 z403 : Int32} (h : Inv4 P q0 q1 q2 q3 z101 z201 z301 z102 z202 z302 z103 z203 z303 z104 z204 z304 z105 z205 z305 z106 z206 z306 z107 z207 z307 z401 z402 z403) : Fre P 3 q3 := h.2.2.2.1
theorem Inv4.s4 {P : Fr1} {q0 q1 q2 q3 : Int64} {z101 z201 z301 z102 z202 z302 z103 z203 z303 z104 z204 z304 z105 z205 z305 z106 z206 z306 z107 z207 z307 z401 z402 z403 : Int32} (h : Inv4 P q0 q1 q2 q3 z101 z201 z301 z102 z202 z302 z103 z203 z303 z104 z204 z304 z105 z205 z305 z106 z206 z306 z107 z207 z307 z401 z402 z403) : Sm P 0 64 z104.toInt z204.toInt z304.toInt := h.2.2.2.2.1
theorem Inv4.s5 {P : Fr1} {q0 q1 q2 q3 : Int64} {z101 z201 z301 z102 z202 z302 z103 z203 z303 z104 z204 z304 z105 z205 z305 z106 z206 z306 z107 z207 z307 z401 z402 z403 : Int32} (h : Inv4 P q0 q1 q2 q3 z101 z201 z301 z102 z202 z302 z103 z203 z303 z104 z204 z304 z105 z205 z305 z106 z206 z306 z107 z207 z307 z401 z402 z403) : Sm P 64 128 z105.toInt z205.toInt z305.toInt := h.2.2.2.2.2.1
theorem Inv4.s6 {P : Fr1} {q0 q1 q2 q3 : Int64} {z101 z201 z301 z102 z202 z302 z103 z203 z303 z104 z204 z304 z105 z205 z305 z106 z206 z306 z107 z207 z307 z401 z402 z403 : Int32} (h : Inv4 P q0 q1 q2 q3 z101 z201 z301 z102 z202 z302 z103 z203 z303 z104 z204 z304 z105 z205 z305 z106 z206 z306 z107 z207 z307 z401 z402 z403) : Sm P 128 192 z106.toInt z206.toInt z306.toInt := h.2.2.2.2.2.2.1
theorem Inv4.s7 {P : Fr1} {q0 q1 q2 q3 : Int64} {z101 z201 z301 z102 z202 z302 z103 z203 z303 z104 z204 z304 z105 z205 z305 z106 z206 z306 z107 z207 z307 z401 z402 z403 : Int32} (h : Inv4 P q0 q1 q2 q3 z101 z201 z301 z102 z202 z302 z103 z203 z303 z104 z204 z304 z105 z205 z305 z106 z206 z306 z107 z207 z307 z401 z402 z403) : Sm P 192 256 z107.toInt z207.toInt z307.toInt := h.2.2.2.2.2.2.2.1
theorem Inv4.k1 {P : Fr1} {q0 q1 q2 q3 : Int64} {z101 z201 z301 z102 z202 z302 z103 z203 z303 z104 z204 z304 z105 z205 z305 z106 z206 z306 z107 z207 z307 z401 z402 z403 : Int32} (h : Inv4 P q0 q1 q2 q3 z101 z201 z301 z102 z202 z302 z103 z203 z303 z104 z204 z304 z105 z205 z305 z106 z206 z306 z107 z207 z307 z401 z402 z403) : z401.toInt = 0 → Sm P 0 256 z101.toInt z201.toInt z301.toInt ∧ Sm P 0 128 z102.toInt z202.toInt z302.toInt ∧ Sm P 128 256 z103.toInt z203.toInt z303.toInt := h.2.2.2.2.2.2.2.2.1
theorem Inv4.k2 {P : Fr1} {q0 q1 q2 q3 : Int64} {z101 z201 z301 z102 z202 z302 z103 z203 z303 z104 z204 z304 z105 z205 z305 z106 z206 z306 z107 z207 z307 z401 z402 z403 : Int32} (h : Inv4 P q0 q1 q2 q3 z101 z201 z301 z102 z202 z302 z103 z203 z303 z104 z204 z304 z105 z205 z305 z106 z206 z306 z107 z207 z307 z401 z402 z403) : z402.toInt = 0 → Sm P 0 128 z102.toInt z202.toInt z302.toInt := h.2.2.2.2.2.2.2.2.2.1
theorem Inv4.k3 {P : Fr1} {q0 q1 q2 q3 : Int64} {z101 z201 z301 z102 z202 z302 z103 z203 z303 z104 z204 z304 z105 z205 z305 z106 z206 z306 z107 z207 z307 z401 z402 z403 : Int32} (h : Inv4 P q0 q1 q2 q3 z101 z201 z301 z102 z202 z302 z103 z203 z303 z104 z204 z304 z105 z205 z305 z106 z206 z306 z107 z207 z307 z401 z402 z403) : z403.toInt = 0 → Sm P 128 256 z103.toInt z203.toInt z303.toInt := h.2.2.2.2.2.2.2.2.2.2
theorem Inv4.mk {P : Fr1} {q0 q1 q2 q3 : Int64} {z101 z201 z301 z102 z202 z302 z103 z203 z303 z104 z204 z304 z105 z205 z305 z106 z206 z306 z107 z207 z307 z401 z402 z403 : Int32} (x_e0 : Fre P 0 q0) (x_e1 : Fre P 1 q1) (x_e2 : Fre P 2 q2) (x_e3 : Fre P 3 q3) (x_s4 : Sm P 0 64 z104.toInt z204.toInt z304.toInt) (x_s5 : Sm P 64 128 z105.toInt z205.toInt z305.toInt) (x_s6 : Sm P 128 192 z106.toInt z206.toInt z306.toInt) (x_s7 : Sm P 192 256 z107.toInt z207.toInt z307.toInt) (x_k1 : z401.toInt = 0 → Sm P 0 256 z101.toInt z201.toInt z301.toInt ∧ Sm P 0 128 z102.toInt z202.toInt z302.toInt ∧ Sm P 128 256 z103.toInt z203.toInt z303.toInt) (x_k2 : z402.toInt = 0 → Sm P 0 128 z102.toInt z202.toInt z302.toInt) (x_k3 : z403.toInt = 0 → Sm P 128 256 z103.toInt z203.toInt z303.toInt) : Inv4 P q0 q1 q2 q3 z101 z201 z301 z102 z202 z302 z103 z203 z303 z104 z204 z304 z105 z205 z305 z106 z206 z306 z107 z207 z307 z401 z402 z403 := ⟨x_e0, x_e1, x_e2, x_e3, x_s4, x_s5, x_s6, x_s7, x_k1, x_k2, x_k3⟩
abbrev mem1 (x0 : Addr) (x1 : Int32) (x2 : Addr) (x3 : Addr) (x4 : Addr) (x5 : Addr) (x6 : Addr) (x7 : Addr) (x8 : List Value) (x9 : List Value) (x10 : List Value) (x11 : List Value) (x12 : List Value) (x13 : List Value) : Mem := [ob x0 "com/example/clauseline/clauseline/service/TakenPieces" [("com/example/clauseline/clauseline/service/TakenPieces", "words", "I", (.int x1)), ("com/example/clauseline/clauseline/service/TakenPieces", "taken", "[J", (.ref x2)), ("com/example/clauseline/clauseline/service/TakenPieces", "splits", "[J", (.ref x3)), ("com/example/clauseline/clauseline/service/TakenPieces", "prefix", "[I", (.ref x4)), ("com/example/clauseline/clauseline/service/TakenPieces", "suffix", "[I", (.ref x5)), ("com/example/clauseline/clauseline/service/TakenPieces", "longest", "[I", (.ref x6)), ("com/example/clauseline/clauseline/service/TakenPieces", "stale", "[Z", (.ref x7))], ar x2 .long x8, ar x3 .long x9, ar x4 .int x10, ar x5 .int x11, ar x6 .int x12, ar x7 .boolean x13]
abbrev mem2 (x0 : Addr) (x1 : Addr) (x2 : Addr) (x3 : Addr) (x4 : Addr) (x5 : Addr) (x6 : Addr) (x7 : Int64) (x8 : Int64) (x9 : Int32) (x10 : Int32) (x11 : Int32) (x12 : Int32) (x13 : Int32) (x14 : Int32) (x15 : Int32) (x16 : Int32) : Mem := [ob x0 "com/example/clauseline/clauseline/service/TakenPieces" [("com/example/clauseline/clauseline/service/TakenPieces", "words", "I", (.int (2 : Int32))), ("com/example/clauseline/clauseline/service/TakenPieces", "taken", "[J", (.ref x1)), ("com/example/clauseline/clauseline/service/TakenPieces", "splits", "[J", (.ref x2)), ("com/example/clauseline/clauseline/service/TakenPieces", "prefix", "[I", (.ref x3)), ("com/example/clauseline/clauseline/service/TakenPieces", "suffix", "[I", (.ref x4)), ("com/example/clauseline/clauseline/service/TakenPieces", "longest", "[I", (.ref x5)), ("com/example/clauseline/clauseline/service/TakenPieces", "stale", "[Z", (.ref x6))], ar x1 .long [(.long x7), (.long x8)], ar x2 .long [(.long (0 : Int64)), (.long (0 : Int64))], ar x3 .int [(.int (0 : Int32)), (.int x9), (.int x9), (.int x10)], ar x4 .int [(.int (0 : Int32)), (.int x11), (.int x12), (.int x11)], ar x5 .int [(.int (0 : Int32)), (.int x13), (.int x14), (.int x15)], ar x6 .boolean [(.int (0 : Int32)), (.int x16)]]
abbrev mem3 (x0 : Addr) (x1 : Addr) (x2 : Addr) (x3 : Addr) (x4 : Addr) (x5 : Addr) (x6 : Addr) (x7 : Int64) (x8 : Int64) (x9 : Int32) (x10 : Int32) (x11 : Int32) (x12 : Int32) (x13 : Int32) (x14 : Int32) (x15 : Int32) (x16 : Int32) : Mem := [ob x0 "com/example/clauseline/clauseline/service/TakenPieces" [("com/example/clauseline/clauseline/service/TakenPieces", "words", "I", (.int (2 : Int32))), ("com/example/clauseline/clauseline/service/TakenPieces", "taken", "[J", (.ref x1)), ("com/example/clauseline/clauseline/service/TakenPieces", "splits", "[J", (.ref x2)), ("com/example/clauseline/clauseline/service/TakenPieces", "prefix", "[I", (.ref x3)), ("com/example/clauseline/clauseline/service/TakenPieces", "suffix", "[I", (.ref x4)), ("com/example/clauseline/clauseline/service/TakenPieces", "longest", "[I", (.ref x5)), ("com/example/clauseline/clauseline/service/TakenPieces", "stale", "[Z", (.ref x6))], ar x1 .long [(.long x7), (.long x8)], ar x2 .long [(.long (0 : Int64)), (.long (0 : Int64))], ar x3 .int [(.int (0 : Int32)), (.int x9), (.int x9), (.int x10)], ar x4 .int [(.int (0 : Int32)), (.int ((64 : Int32) + x11)), (.int x11), (.int x12)], ar x5 .int [(.int (0 : Int32)), (.int x13), (.int x14), (.int x15)], ar x6 .boolean [(.int (0 : Int32)), (.int x16)]]
abbrev mem4 (x0 : Addr) (x1 : Addr) (x2 : Addr) (x3 : Addr) (x4 : Addr) (x5 : Addr) (x6 : Addr) (x7 : Int64) (x8 : Int64) (x9 : Int32) (x10 : Int32) (x11 : Int32) (x12 : Int32) (x13 : Int32) (x14 : Int32) (x15 : Int32) (x16 : Int32) : Mem := [ob x0 "com/example/clauseline/clauseline/service/TakenPieces" [("com/example/clauseline/clauseline/service/TakenPieces", "words", "I", (.int (2 : Int32))), ("com/example/clauseline/clauseline/service/TakenPieces", "taken", "[J", (.ref x1)), ("com/example/clauseline/clauseline/service/TakenPieces", "splits", "[J", (.ref x2)), ("com/example/clauseline/clauseline/service/TakenPieces", "prefix", "[I", (.ref x3)), ("com/example/clauseline/clauseline/service/TakenPieces", "suffix", "[I", (.ref x4)), ("com/example/clauseline/clauseline/service/TakenPieces", "longest", "[I", (.ref x5)), ("com/example/clauseline/clauseline/service/TakenPieces", "stale", "[Z", (.ref x6))], ar x1 .long [(.long x7), (.long x8)], ar x2 .long [(.long (0 : Int64)), (.long (0 : Int64))], ar x3 .int [(.int (0 : Int32)), (.int ((64 : Int32) + x9)), (.int x10), (.int x9)], ar x4 .int [(.int (0 : Int32)), (.int x11), (.int x12), (.int x11)], ar x5 .int [(.int (0 : Int32)), (.int x13), (.int x14), (.int x15)], ar x6 .boolean [(.int (0 : Int32)), (.int x16)]]
abbrev mem5 (x0 : Addr) (x1 : Addr) (x2 : Addr) (x3 : Addr) (x4 : Addr) (x5 : Addr) (x6 : Addr) (x7 : Int64) (x8 : Int64) (x9 : Int32) (x10 : Int32) (x11 : Int32) (x12 : Int32) (x13 : Int32) (x14 : Int32) (x15 : Int32) (x16 : Int32) : Mem := [ob x0 "com/example/clauseline/clauseline/service/TakenPieces" [("com/example/clauseline/clauseline/service/TakenPieces", "words", "I", (.int (2 : Int32))), ("com/example/clauseline/clauseline/service/TakenPieces", "taken", "[J", (.ref x1)), ("com/example/clauseline/clauseline/service/TakenPieces", "splits", "[J", (.ref x2)), ("com/example/clauseline/clauseline/service/TakenPieces", "prefix", "[I", (.ref x3)), ("com/example/clauseline/clauseline/service/TakenPieces", "suffix", "[I", (.ref x4)), ("com/example/clauseline/clauseline/service/TakenPieces", "longest", "[I", (.ref x5)), ("com/example/clauseline/clauseline/service/TakenPieces", "stale", "[Z", (.ref x6))], ar x1 .long [(.long x7), (.long x8)], ar x2 .long [(.long (0 : Int64)), (.long (0 : Int64))], ar x3 .int [(.int (0 : Int32)), (.int ((64 : Int32) + x9)), (.int x10), (.int x9)], ar x4 .int [(.int (0 : Int32)), (.int ((64 : Int32) + x11)), (.int x11), (.int x12)], ar x5 .int [(.int (0 : Int32)), (.int x13), (.int x14), (.int x15)], ar x6 .boolean [(.int (0 : Int32)), (.int x16)]]
abbrev mem6 (x0 : Addr) (x1 : Addr) (x2 : Addr) (x3 : Addr) (x4 : Addr) (x5 : Addr) (x6 : Addr) (x7 : Int64) (x8 : Int64) (x9 : Int64) (x10 : Int64) (x11 : Int32) (x12 : Int32) (x13 : Int32) (x14 : Int32) (x15 : Int32) (x16 : Int32) (x17 : Int32) (x18 : Int32) (x19 : Int32) (x20 : Int32) (x21 : Int32) (x22 : Int32) (x23 : Int32) (x24 : Int32) (x25 : Int32) (x26 : Int32) (x27 : Int32) (x28 : Int32) (x29 : Int32) (x30 : Int32) (x31 : Int32) (x32 : Int32) : Mem := [ob x0 "com/example/clauseline/clauseline/service/TakenPieces" [("com/example/clauseline/clauseline/service/TakenPieces", "words", "I", (.int (4 : Int32))), ("com/example/clauseline/clauseline/service/TakenPieces", "taken", "[J", (.ref x1)), ("com/example/clauseline/clauseline/service/TakenPieces", "splits", "[J", (.ref x2)), ("com/example/clauseline/clauseline/service/TakenPieces", "prefix", "[I", (.ref x3)), ("com/example/clauseline/clauseline/service/TakenPieces", "suffix", "[I", (.ref x4)), ("com/example/clauseline/clauseline/service/TakenPieces", "longest", "[I", (.ref x5)), ("com/example/clauseline/clauseline/service/TakenPieces", "stale", "[Z", (.ref x6))], ar x1 .long [(.long x7), (.long x8), (.long x9), (.long x10)], ar x2 .long [(.long (0 : Int64)), (.long (0 : Int64)), (.long (0 : Int64)), (.long (0 : Int64))], ar x3 .int [(.int (0 : Int32)), (.int x11), (.int x11), (.int x12), (.int x13), (.int x14), (.int x15), (.int x16)], ar x4 .int [(.int (0 : Int32)), (.int x17), (.int x18), (.int x17), (.int x19), (.int x20), (.int x21), (.int x22)], ar x5 .int [(.int (0 : Int32)), (.int x23), (.int x24), (.int x25), (.int x26), (.int x27), (.int x28), (.int x29)], ar x6 .boolean [(.int (0 : Int32)), (.int x30), (.int x31), (.int x32)]]
abbrev mem7 (x0 : Addr) (x1 : Addr) (x2 : Addr) (x3 : Addr) (x4 : Addr) (x5 : Addr) (x6 : Addr) (x7 : Int64) (x8 : Int64) (x9 : Int64) (x10 : Int64) (x11 : Int32) (x12 : Int32) (x13 : Int32) (x14 : Int32) (x15 : Int32) (x16 : Int32) (x17 : Int32) (x18 : Int32) (x19 : Int32) (x20 : Int32) (x21 : Int32) (x22 : Int32) (x23 : Int32) (x24 : Int32) (x25 : Int32) (x26 : Int32) (x27 : Int32) (x28 : Int32) (x29 : Int32) (x30 : Int32) (x31 : Int32) (x32 : Int32) : Mem := [ob x0 "com/example/clauseline/clauseline/service/TakenPieces" [("com/example/clauseline/clauseline/service/TakenPieces", "words", "I", (.int (4 : Int32))), ("com/example/clauseline/clauseline/service/TakenPieces", "taken", "[J", (.ref x1)), ("com/example/clauseline/clauseline/service/TakenPieces", "splits", "[J", (.ref x2)), ("com/example/clauseline/clauseline/service/TakenPieces", "prefix", "[I", (.ref x3)), ("com/example/clauseline/clauseline/service/TakenPieces", "suffix", "[I", (.ref x4)), ("com/example/clauseline/clauseline/service/TakenPieces", "longest", "[I", (.ref x5)), ("com/example/clauseline/clauseline/service/TakenPieces", "stale", "[Z", (.ref x6))], ar x1 .long [(.long x7), (.long x8), (.long x9), (.long x10)], ar x2 .long [(.long (0 : Int64)), (.long (0 : Int64)), (.long (0 : Int64)), (.long (0 : Int64))], ar x3 .int [(.int (0 : Int32)), (.int x11), (.int x11), (.int x12), (.int x13), (.int x14), (.int x15), (.int x16)], ar x4 .int [(.int (0 : Int32)), (.int ((128 : Int32) + x17)), (.int x17), (.int x18), (.int x19), (.int x20), (.int x21), (.int x22)], ar x5 .int [(.int (0 : Int32)), (.int x23), (.int x24), (.int x25), (.int x26), (.int x27), (.int x28), (.int x29)], ar x6 .boolean [(.int (0 : Int32)), (.int x30), (.int x31), (.int x32)]]
abbrev mem8 (x0 : Addr) (x1 : Addr) (x2 : Addr) (x3 : Addr) (x4 : Addr) (x5 : Addr) (x6 : Addr) (x7 : Int64) (x8 : Int64) (x9 : Int64) (x10 : Int64) (x11 : Int32) (x12 : Int32) (x13 : Int32) (x14 : Int32) (x15 : Int32) (x16 : Int32) (x17 : Int32) (x18 : Int32) (x19 : Int32) (x20 : Int32) (x21 : Int32) (x22 : Int32) (x23 : Int32) (x24 : Int32) (x25 : Int32) (x26 : Int32) (x27 : Int32) (x28 : Int32) (x29 : Int32) (x30 : Int32) (x31 : Int32) (x32 : Int32) : Mem := [ob x0 "com/example/clauseline/clauseline/service/TakenPieces" [("com/example/clauseline/clauseline/service/TakenPieces", "words", "I", (.int (4 : Int32))), ("com/example/clauseline/clauseline/service/TakenPieces", "taken", "[J", (.ref x1)), ("com/example/clauseline/clauseline/service/TakenPieces", "splits", "[J", (.ref x2)), ("com/example/clauseline/clauseline/service/TakenPieces", "prefix", "[I", (.ref x3)), ("com/example/clauseline/clauseline/service/TakenPieces", "suffix", "[I", (.ref x4)), ("com/example/clauseline/clauseline/service/TakenPieces", "longest", "[I", (.ref x5)), ("com/example/clauseline/clauseline/service/TakenPieces", "stale", "[Z", (.ref x6))], ar x1 .long [(.long x7), (.long x8), (.long x9), (.long x10)], ar x2 .long [(.long (0 : Int64)), (.long (0 : Int64)), (.long (0 : Int64)), (.long (0 : Int64))], ar x3 .int [(.int (0 : Int32)), (.int ((128 : Int32) + x11)), (.int x12), (.int x11), (.int x13), (.int x14), (.int x15), (.int x16)], ar x4 .int [(.int (0 : Int32)), (.int x17), (.int x18), (.int x17), (.int x19), (.int x20), (.int x21), (.int x22)], ar x5 .int [(.int (0 : Int32)), (.int x23), (.int x24), (.int x25), (.int x26), (.int x27), (.int x28), (.int x29)], ar x6 .boolean [(.int (0 : Int32)), (.int x30), (.int x31), (.int x32)]]
abbrev mem9 (x0 : Addr) (x1 : Addr) (x2 : Addr) (x3 : Addr) (x4 : Addr) (x5 : Addr) (x6 : Addr) (x7 : Int64) (x8 : Int64) (x9 : Int64) (x10 : Int64) (x11 : Int32) (x12 : Int32) (x13 : Int32) (x14 : Int32) (x15 : Int32) (x16 : Int32) (x17 : Int32) (x18 : Int32) (x19 : Int32) (x20 : Int32) (x21 : Int32) (x22 : Int32) (x23 : Int32) (x24 : Int32) (x25 : Int32) (x26 : Int32) (x27 : Int32) (x28 : Int32) (x29 : Int32) (x30 : Int32) (x31 : Int32) (x32 : Int32) : Mem := [ob x0 "com/example/clauseline/clauseline/service/TakenPieces" [("com/example/clauseline/clauseline/service/TakenPieces", "words", "I", (.int (4 : Int32))), ("com/example/clauseline/clauseline/service/TakenPieces", "taken", "[J", (.ref x1)), ("com/example/clauseline/clauseline/service/TakenPieces", "splits", "[J", (.ref x2)), ("com/example/clauseline/clauseline/service/TakenPieces", "prefix", "[I", (.ref x3)), ("com/example/clauseline/clauseline/service/TakenPieces", "suffix", "[I", (.ref x4)), ("com/example/clauseline/clauseline/service/TakenPieces", "longest", "[I", (.ref x5)), ("com/example/clauseline/clauseline/service/TakenPieces", "stale", "[Z", (.ref x6))], ar x1 .long [(.long x7), (.long x8), (.long x9), (.long x10)], ar x2 .long [(.long (0 : Int64)), (.long (0 : Int64)), (.long (0 : Int64)), (.long (0 : Int64))], ar x3 .int [(.int (0 : Int32)), (.int ((128 : Int32) + x11)), (.int x12), (.int x11), (.int x13), (.int x14), (.int x15), (.int x16)], ar x4 .int [(.int (0 : Int32)), (.int ((128 : Int32) + x17)), (.int x17), (.int x18), (.int x19), (.int x20), (.int x21), (.int x22)], ar x5 .int [(.int (0 : Int32)), (.int x23), (.int x24), (.int x25), (.int x26), (.int x27), (.int x28), (.int x29)], ar x6 .boolean [(.int (0 : Int32)), (.int x30), (.int x31), (.int x32)]]
abbrev mem10 (x0 : Addr) (x1 : Addr) (x2 : Addr) (x3 : Addr) (x4 : Addr) (x5 : Addr) (x6 : Addr) (x7 : Int64) (x8 : Int64) (x9 : Int64) (x10 : Int64) (x11 : Int32) (x12 : Int32) (x13 : Int32) (x14 : Int32) (x15 : Int32) (x16 : Int32) (x17 : Int32) (x18 : Int32) (x19 : Int32) (x20 : Int32) (x21 : Int32) (x22 : Int32) (x23 : Int32) (x24 : Int32) (x25 : Int32) (x26 : Int32) (x27 : Int32) (x28 : Int32) (x29 : Int32) (x30 : Int32) (x31 : Int32) (x32 : Int32) : Mem := [ob x0 "com/example/clauseline/clauseline/service/TakenPieces" [("com/example/clauseline/clauseline/service/TakenPieces", "words", "I", (.int (4 : Int32))), ("com/example/clauseline/clauseline/service/TakenPieces", "taken", "[J", (.ref x1)), ("com/example/clauseline/clauseline/service/TakenPieces", "splits", "[J", (.ref x2)), ("com/example/clauseline/clauseline/service/TakenPieces", "prefix", "[I", (.ref x3)), ("com/example/clauseline/clauseline/service/TakenPieces", "suffix", "[I", (.ref x4)), ("com/example/clauseline/clauseline/service/TakenPieces", "longest", "[I", (.ref x5)), ("com/example/clauseline/clauseline/service/TakenPieces", "stale", "[Z", (.ref x6))], ar x1 .long [(.long x7), (.long x8), (.long x9), (.long x10)], ar x2 .long [(.long (0 : Int64)), (.long (0 : Int64)), (.long (0 : Int64)), (.long (0 : Int64))], ar x3 .int [(.int (0 : Int32)), (.int x11), (.int x12), (.int x13), (.int x12), (.int x14), (.int x15), (.int x16)], ar x4 .int [(.int (0 : Int32)), (.int x17), (.int x18), (.int x19), (.int x20), (.int x18), (.int x21), (.int x22)], ar x5 .int [(.int (0 : Int32)), (.int x23), (.int x24), (.int x25), (.int x26), (.int x27), (.int x28), (.int x29)], ar x6 .boolean [(.int (0 : Int32)), (.int x30), (.int x31), (.int x32)]]
abbrev mem11 (x0 : Addr) (x1 : Addr) (x2 : Addr) (x3 : Addr) (x4 : Addr) (x5 : Addr) (x6 : Addr) (x7 : Int64) (x8 : Int64) (x9 : Int64) (x10 : Int64) (x11 : Int32) (x12 : Int32) (x13 : Int32) (x14 : Int32) (x15 : Int32) (x16 : Int32) (x17 : Int32) (x18 : Int32) (x19 : Int32) (x20 : Int32) (x21 : Int32) (x22 : Int32) (x23 : Int32) (x24 : Int32) (x25 : Int32) (x26 : Int32) (x27 : Int32) (x28 : Int32) (x29 : Int32) (x30 : Int32) (x31 : Int32) (x32 : Int32) : Mem := [ob x0 "com/example/clauseline/clauseline/service/TakenPieces" [("com/example/clauseline/clauseline/service/TakenPieces", "words", "I", (.int (4 : Int32))), ("com/example/clauseline/clauseline/service/TakenPieces", "taken", "[J", (.ref x1)), ("com/example/clauseline/clauseline/service/TakenPieces", "splits", "[J", (.ref x2)), ("com/example/clauseline/clauseline/service/TakenPieces", "prefix", "[I", (.ref x3)), ("com/example/clauseline/clauseline/service/TakenPieces", "suffix", "[I", (.ref x4)), ("com/example/clauseline/clauseline/service/TakenPieces", "longest", "[I", (.ref x5)), ("com/example/clauseline/clauseline/service/TakenPieces", "stale", "[Z", (.ref x6))], ar x1 .long [(.long x7), (.long x8), (.long x9), (.long x10)], ar x2 .long [(.long (0 : Int64)), (.long (0 : Int64)), (.long (0 : Int64)), (.long (0 : Int64))], ar x3 .int [(.int (0 : Int32)), (.int x11), (.int x12), (.int x13), (.int x12), (.int x14), (.int x15), (.int x16)], ar x4 .int [(.int (0 : Int32)), (.int x17), (.int ((64 : Int32) + x18)), (.int x19), (.int x18), (.int x20), (.int x21), (.int x22)], ar x5 .int [(.int (0 : Int32)), (.int x23), (.int x24), (.int x25), (.int x26), (.int x27), (.int x28), (.int x29)], ar x6 .boolean [(.int (0 : Int32)), (.int x30), (.int x31), (.int x32)]]
abbrev mem12 (x0 : Addr) (x1 : Addr) (x2 : Addr) (x3 : Addr) (x4 : Addr) (x5 : Addr) (x6 : Addr) (x7 : Int64) (x8 : Int64) (x9 : Int64) (x10 : Int64) (x11 : Int32) (x12 : Int32) (x13 : Int32) (x14 : Int32) (x15 : Int32) (x16 : Int32) (x17 : Int32) (x18 : Int32) (x19 : Int32) (x20 : Int32) (x21 : Int32) (x22 : Int32) (x23 : Int32) (x24 : Int32) (x25 : Int32) (x26 : Int32) (x27 : Int32) (x28 : Int32) (x29 : Int32) (x30 : Int32) (x31 : Int32) (x32 : Int32) : Mem := [ob x0 "com/example/clauseline/clauseline/service/TakenPieces" [("com/example/clauseline/clauseline/service/TakenPieces", "words", "I", (.int (4 : Int32))), ("com/example/clauseline/clauseline/service/TakenPieces", "taken", "[J", (.ref x1)), ("com/example/clauseline/clauseline/service/TakenPieces", "splits", "[J", (.ref x2)), ("com/example/clauseline/clauseline/service/TakenPieces", "prefix", "[I", (.ref x3)), ("com/example/clauseline/clauseline/service/TakenPieces", "suffix", "[I", (.ref x4)), ("com/example/clauseline/clauseline/service/TakenPieces", "longest", "[I", (.ref x5)), ("com/example/clauseline/clauseline/service/TakenPieces", "stale", "[Z", (.ref x6))], ar x1 .long [(.long x7), (.long x8), (.long x9), (.long x10)], ar x2 .long [(.long (0 : Int64)), (.long (0 : Int64)), (.long (0 : Int64)), (.long (0 : Int64))], ar x3 .int [(.int (0 : Int32)), (.int x11), (.int ((64 : Int32) + x12)), (.int x13), (.int x14), (.int x12), (.int x15), (.int x16)], ar x4 .int [(.int (0 : Int32)), (.int x17), (.int x18), (.int x19), (.int x20), (.int x18), (.int x21), (.int x22)], ar x5 .int [(.int (0 : Int32)), (.int x23), (.int x24), (.int x25), (.int x26), (.int x27), (.int x28), (.int x29)], ar x6 .boolean [(.int (0 : Int32)), (.int x30), (.int x31), (.int x32)]]
abbrev mem13 (x0 : Addr) (x1 : Addr) (x2 : Addr) (x3 : Addr) (x4 : Addr) (x5 : Addr) (x6 : Addr) (x7 : Int64) (x8 : Int64) (x9 : Int64) (x10 : Int64) (x11 : Int32) (x12 : Int32) (x13 : Int32) (x14 : Int32) (x15 : Int32) (x16 : Int32) (x17 : Int32) (x18 : Int32) (x19 : Int32) (x20 : Int32) (x21 : Int32) (x22 : Int32) (x23 : Int32) (x24 : Int32) (x25 : Int32) (x26 : Int32) (x27 : Int32) (x28 : Int32) (x29 : Int32) (x30 : Int32) (x31 : Int32) (x32 : Int32) : Mem := [ob x0 "com/example/clauseline/clauseline/service/TakenPieces" [("com/example/clauseline/clauseline/service/TakenPieces", "words", "I", (.int (4 : Int32))), ("com/example/clauseline/clauseline/service/TakenPieces", "taken", "[J", (.ref x1)), ("com/example/clauseline/clauseline/service/TakenPieces", "splits", "[J", (.ref x2)), ("com/example/clauseline/clauseline/service/TakenPieces", "prefix", "[I", (.ref x3)), ("com/example/clauseline/clauseline/service/TakenPieces", "suffix", "[I", (.ref x4)), ("com/example/clauseline/clauseline/service/TakenPieces", "longest", "[I", (.ref x5)), ("com/example/clauseline/clauseline/service/TakenPieces", "stale", "[Z", (.ref x6))], ar x1 .long [(.long x7), (.long x8), (.long x9), (.long x10)], ar x2 .long [(.long (0 : Int64)), (.long (0 : Int64)), (.long (0 : Int64)), (.long (0 : Int64))], ar x3 .int [(.int (0 : Int32)), (.int x11), (.int ((64 : Int32) + x12)), (.int x13), (.int x14), (.int x12), (.int x15), (.int x16)], ar x4 .int [(.int (0 : Int32)), (.int x17), (.int ((64 : Int32) + x18)), (.int x19), (.int x18), (.int x20), (.int x21), (.int x22)], ar x5 .int [(.int (0 : Int32)), (.int x23), (.int x24), (.int x25), (.int x26), (.int x27), (.int x28), (.int x29)], ar x6 .boolean [(.int (0 : Int32)), (.int x30), (.int x31), (.int x32)]]
abbrev mem14 (x0 : Addr) (x1 : Addr) (x2 : Addr) (x3 : Addr) (x4 : Addr) (x5 : Addr) (x6 : Addr) (x7 : Int64) (x8 : Int64) (x9 : Int64) (x10 : Int64) (x11 : Int32) (x12 : Int32) (x13 : Int32) (x14 : Int32) (x15 : Int32) (x16 : Int32) (x17 : Int32) (x18 : Int32) (x19 : Int32) (x20 : Int32) (x21 : Int32) (x22 : Int32) (x23 : Int32) (x24 : Int32) (x25 : Int32) (x26 : Int32) (x27 : Int32) (x28 : Int32) (x29 : Int32) (x30 : Int32) (x31 : Int32) (x32 : Int32) : Mem := [ob x0 "com/example/clauseline/clauseline/service/TakenPieces" [("com/example/clauseline/clauseline/service/TakenPieces", "words", "I", (.int (4 : Int32))), ("com/example/clauseline/clauseline/service/TakenPieces", "taken", "[J", (.ref x1)), ("com/example/clauseline/clauseline/service/TakenPieces", "splits", "[J", (.ref x2)), ("com/example/clauseline/clauseline/service/TakenPieces", "prefix", "[I", (.ref x3)), ("com/example/clauseline/clauseline/service/TakenPieces", "suffix", "[I", (.ref x4)), ("com/example/clauseline/clauseline/service/TakenPieces", "longest", "[I", (.ref x5)), ("com/example/clauseline/clauseline/service/TakenPieces", "stale", "[Z", (.ref x6))], ar x1 .long [(.long x7), (.long x8), (.long x9), (.long x10)], ar x2 .long [(.long (0 : Int64)), (.long (0 : Int64)), (.long (0 : Int64)), (.long (0 : Int64))], ar x3 .int [(.int (0 : Int32)), (.int x11), (.int x12), (.int x13), (.int x14), (.int x15), (.int x13), (.int x16)], ar x4 .int [(.int (0 : Int32)), (.int x17), (.int x18), (.int x19), (.int x20), (.int x21), (.int x22), (.int x19)], ar x5 .int [(.int (0 : Int32)), (.int x23), (.int x24), (.int x25), (.int x26), (.int x27), (.int x28), (.int x29)], ar x6 .boolean [(.int (0 : Int32)), (.int x30), (.int x31), (.int x32)]]
abbrev mem15 (x0 : Addr) (x1 : Addr) (x2 : Addr) (x3 : Addr) (x4 : Addr) (x5 : Addr) (x6 : Addr) (x7 : Int64) (x8 : Int64) (x9 : Int64) (x10 : Int64) (x11 : Int32) (x12 : Int32) (x13 : Int32) (x14 : Int32) (x15 : Int32) (x16 : Int32) (x17 : Int32) (x18 : Int32) (x19 : Int32) (x20 : Int32) (x21 : Int32) (x22 : Int32) (x23 : Int32) (x24 : Int32) (x25 : Int32) (x26 : Int32) (x27 : Int32) (x28 : Int32) (x29 : Int32) (x30 : Int32) (x31 : Int32) (x32 : Int32) : Mem := [ob x0 "com/example/clauseline/clauseline/service/TakenPieces" [("com/example/clauseline/clauseline/service/TakenPieces", "words", "I", (.int (4 : Int32))), ("com/example/clauseline/clauseline/service/TakenPieces", "taken", "[J", (.ref x1)), ("com/example/clauseline/clauseline/service/TakenPieces", "splits", "[J", (.ref x2)), ("com/example/clauseline/clauseline/service/TakenPieces", "prefix", "[I", (.ref x3)), ("com/example/clauseline/clauseline/service/TakenPieces", "suffix", "[I", (.ref x4)), ("com/example/clauseline/clauseline/service/TakenPieces", "longest", "[I", (.ref x5)), ("com/example/clauseline/clauseline/service/TakenPieces", "stale", "[Z", (.ref x6))], ar x1 .long [(.long x7), (.long x8), (.long x9), (.long x10)], ar x2 .long [(.long (0 : Int64)), (.long (0 : Int64)), (.long (0 : Int64)), (.long (0 : Int64))], ar x3 .int [(.int (0 : Int32)), (.int x11), (.int x12), (.int x13), (.int x14), (.int x15), (.int x13), (.int x16)], ar x4 .int [(.int (0 : Int32)), (.int x17), (.int x18), (.int ((64 : Int32) + x19)), (.int x20), (.int x21), (.int x19), (.int x22)], ar x5 .int [(.int (0 : Int32)), (.int x23), (.int x24), (.int x25), (.int x26), (.int x27), (.int x28), (.int x29)], ar x6 .boolean [(.int (0 : Int32)), (.int x30), (.int x31), (.int x32)]]
abbrev mem16 (x0 : Addr) (x1 : Addr) (x2 : Addr) (x3 : Addr) (x4 : Addr) (x5 : Addr) (x6 : Addr) (x7 : Int64) (x8 : Int64) (x9 : Int64) (x10 : Int64) (x11 : Int32) (x12 : Int32) (x13 : Int32) (x14 : Int32) (x15 : Int32) (x16 : Int32) (x17 : Int32) (x18 : Int32) (x19 : Int32) (x20 : Int32) (x21 : Int32) (x22 : Int32) (x23 : Int32) (x24 : Int32) (x25 : Int32) (x26 : Int32) (x27 : Int32) (x28 : Int32) (x29 : Int32) (x30 : Int32) (x31 : Int32) (x32 : Int32) : Mem := [ob x0 "com/example/clauseline/clauseline/service/TakenPieces" [("com/example/clauseline/clauseline/service/TakenPieces", "words", "I", (.int (4 : Int32))), ("com/example/clauseline/clauseline/service/TakenPieces", "taken", "[J", (.ref x1)), ("com/example/clauseline/clauseline/service/TakenPieces", "splits", "[J", (.ref x2)), ("com/example/clauseline/clauseline/service/TakenPieces", "prefix", "[I", (.ref x3)), ("com/example/clauseline/clauseline/service/TakenPieces", "suffix", "[I", (.ref x4)), ("com/example/clauseline/clauseline/service/TakenPieces", "longest", "[I", (.ref x5)), ("com/example/clauseline/clauseline/service/TakenPieces", "stale", "[Z", (.ref x6))], ar x1 .long [(.long x7), (.long x8), (.long x9), (.long x10)], ar x2 .long [(.long (0 : Int64)), (.long (0 : Int64)), (.long (0 : Int64)), (.long (0 : Int64))], ar x3 .int [(.int (0 : Int32)), (.int x11), (.int x12), (.int ((64 : Int32) + x13)), (.int x14), (.int x15), (.int x16), (.int x13)], ar x4 .int [(.int (0 : Int32)), (.int x17), (.int x18), (.int x19), (.int x20), (.int x21), (.int x22), (.int x19)], ar x5 .int [(.int (0 : Int32)), (.int x23), (.int x24), (.int x25), (.int x26), (.int x27), (.int x28), (.int x29)], ar x6 .boolean [(.int (0 : Int32)), (.int x30), (.int x31), (.int x32)]]
abbrev mem17 (x0 : Addr) (x1 : Addr) (x2 : Addr) (x3 : Addr) (x4 : Addr) (x5 : Addr) (x6 : Addr) (x7 : Int64) (x8 : Int64) (x9 : Int64) (x10 : Int64) (x11 : Int32) (x12 : Int32) (x13 : Int32) (x14 : Int32) (x15 : Int32) (x16 : Int32) (x17 : Int32) (x18 : Int32) (x19 : Int32) (x20 : Int32) (x21 : Int32) (x22 : Int32) (x23 : Int32) (x24 : Int32) (x25 : Int32) (x26 : Int32) (x27 : Int32) (x28 : Int32) (x29 : Int32) (x30 : Int32) (x31 : Int32) (x32 : Int32) : Mem := [ob x0 "com/example/clauseline/clauseline/service/TakenPieces" [("com/example/clauseline/clauseline/service/TakenPieces", "words", "I", (.int (4 : Int32))), ("com/example/clauseline/clauseline/service/TakenPieces", "taken", "[J", (.ref x1)), ("com/example/clauseline/clauseline/service/TakenPieces", "splits", "[J", (.ref x2)), ("com/example/clauseline/clauseline/service/TakenPieces", "prefix", "[I", (.ref x3)), ("com/example/clauseline/clauseline/service/TakenPieces", "suffix", "[I", (.ref x4)), ("com/example/clauseline/clauseline/service/TakenPieces", "longest", "[I", (.ref x5)), ("com/example/clauseline/clauseline/service/TakenPieces", "stale", "[Z", (.ref x6))], ar x1 .long [(.long x7), (.long x8), (.long x9), (.long x10)], ar x2 .long [(.long (0 : Int64)), (.long (0 : Int64)), (.long (0 : Int64)), (.long (0 : Int64))], ar x3 .int [(.int (0 : Int32)), (.int x11), (.int x12), (.int ((64 : Int32) + x13)), (.int x14), (.int x15), (.int x16), (.int x13)], ar x4 .int [(.int (0 : Int32)), (.int x17), (.int x18), (.int ((64 : Int32) + x19)), (.int x20), (.int x21), (.int x19), (.int x22)], ar x5 .int [(.int (0 : Int32)), (.int x23), (.int x24), (.int x25), (.int x26), (.int x27), (.int x28), (.int x29)], ar x6 .boolean [(.int (0 : Int32)), (.int x30), (.int x31), (.int x32)]]
abbrev mem18 (x0 : Addr) (x1 : Addr) (x2 : Addr) (x3 : Addr) (x4 : Addr) (x5 : Addr) (x6 : Addr) (x7 : Int64) (x8 : Int32) (x9 : Int32) (x10 : Int32) : Mem := [ob x0 "com/example/clauseline/clauseline/service/TakenPieces" [("com/example/clauseline/clauseline/service/TakenPieces", "words", "I", (.int (1 : Int32))), ("com/example/clauseline/clauseline/service/TakenPieces", "taken", "[J", (.ref x1)), ("com/example/clauseline/clauseline/service/TakenPieces", "splits", "[J", (.ref x2)), ("com/example/clauseline/clauseline/service/TakenPieces", "prefix", "[I", (.ref x3)), ("com/example/clauseline/clauseline/service/TakenPieces", "suffix", "[I", (.ref x4)), ("com/example/clauseline/clauseline/service/TakenPieces", "longest", "[I", (.ref x5)), ("com/example/clauseline/clauseline/service/TakenPieces", "stale", "[Z", (.ref x6))], ar x1 .long [(.long x7)], ar x2 .long [(.long (0 : Int64))], ar x3 .int [(.int (0 : Int32)), (.int x8)], ar x4 .int [(.int (0 : Int32)), (.int x9)], ar x5 .int [(.int (0 : Int32)), (.int x10)], ar x6 .boolean [(.int (0 : Int32))]]
abbrev mem19 (x0 : Addr) (x1 : Addr) (x2 : Addr) (x3 : Addr) (x4 : Addr) (x5 : Addr) (x6 : Addr) (x7 : Int64) (x8 : Int64) (x9 : Int32) (x10 : Int32) (x11 : Int32) (x12 : Int32) (x13 : Int32) (x14 : Int32) (x15 : Int32) (x16 : Int32) (x17 : Int32) (x18 : Int32) : Mem := [ob x0 "com/example/clauseline/clauseline/service/TakenPieces" [("com/example/clauseline/clauseline/service/TakenPieces", "words", "I", (.int (2 : Int32))), ("com/example/clauseline/clauseline/service/TakenPieces", "taken", "[J", (.ref x1)), ("com/example/clauseline/clauseline/service/TakenPieces", "splits", "[J", (.ref x2)), ("com/example/clauseline/clauseline/service/TakenPieces", "prefix", "[I", (.ref x3)), ("com/example/clauseline/clauseline/service/TakenPieces", "suffix", "[I", (.ref x4)), ("com/example/clauseline/clauseline/service/TakenPieces", "longest", "[I", (.ref x5)), ("com/example/clauseline/clauseline/service/TakenPieces", "stale", "[Z", (.ref x6))], ar x1 .long [(.long x7), (.long x8)], ar x2 .long [(.long (0 : Int64)), (.long (0 : Int64))], ar x3 .int [(.int (0 : Int32)), (.int x9), (.int x10), (.int x11)], ar x4 .int [(.int (0 : Int32)), (.int x12), (.int x13), (.int x14)], ar x5 .int [(.int (0 : Int32)), (.int x15), (.int x16), (.int x17)], ar x6 .boolean [(.int (0 : Int32)), (.int x18)]]
abbrev mem20 (x0 : Addr) (x1 : Addr) (x2 : Addr) (x3 : Addr) (x4 : Addr) (x5 : Addr) (x6 : Addr) (x7 : Int64) (x8 : Int64) (x9 : Int64) (x10 : Int64) (x11 : Int32) (x12 : Int32) (x13 : Int32) (x14 : Int32) (x15 : Int32) (x16 : Int32) (x17 : Int32) (x18 : Int32) (x19 : Int32) (x20 : Int32) (x21 : Int32) (x22 : Int32) (x23 : Int32) (x24 : Int32) (x25 : Int32) (x26 : Int32) (x27 : Int32) (x28 : Int32) (x29 : Int32) (x30 : Int32) (x31 : Int32) (x32 : Int32) (x33 : Int32) (x34 : Int32) : Mem := [ob x0 "com/example/clauseline/clauseline/service/TakenPieces" [("com/example/clauseline/clauseline/service/TakenPieces", "words", "I", (.int (4 : Int32))), ("com/example/clauseline/clauseline/service/TakenPieces", "taken", "[J", (.ref x1)), ("com/example/clauseline/clauseline/service/TakenPieces", "splits", "[J", (.ref x2)), ("com/example/clauseline/clauseline/service/TakenPieces", "prefix", "[I", (.ref x3)), ("com/example/clauseline/clauseline/service/TakenPieces", "suffix", "[I", (.ref x4)), ("com/example/clauseline/clauseline/service/TakenPieces", "longest", "[I", (.ref x5)), ("com/example/clauseline/clauseline/service/TakenPieces", "stale", "[Z", (.ref x6))], ar x1 .long [(.long x7), (.long x8), (.long x9), (.long x10)], ar x2 .long [(.long (0 : Int64)), (.long (0 : Int64)), (.long (0 : Int64)), (.long (0 : Int64))], ar x3 .int [(.int (0 : Int32)), (.int x11), (.int x12), (.int x13), (.int x14), (.int x15), (.int x16), (.int x17)], ar x4 .int [(.int (0 : Int32)), (.int x18), (.int x19), (.int x20), (.int x21), (.int x22), (.int x23), (.int x24)], ar x5 .int [(.int (0 : Int32)), (.int x25), (.int x26), (.int x27), (.int x28), (.int x29), (.int x30), (.int x31)], ar x6 .boolean [(.int (0 : Int32)), (.int x32), (.int x33), (.int x34)]]
abbrev mem21 (x0 : Addr) : Mem := [ob x0 "com/example/clauseline/clauseline/service/TakenPieces" [("com/example/clauseline/clauseline/service/TakenPieces", "words", "I", (.int (0 : Int32))), ("com/example/clauseline/clauseline/service/TakenPieces", "taken", "[J", .null), ("com/example/clauseline/clauseline/service/TakenPieces", "splits", "[J", .null), ("com/example/clauseline/clauseline/service/TakenPieces", "prefix", "[I", .null), ("com/example/clauseline/clauseline/service/TakenPieces", "suffix", "[I", .null), ("com/example/clauseline/clauseline/service/TakenPieces", "longest", "[I", .null), ("com/example/clauseline/clauseline/service/TakenPieces", "stale", "[Z", .null)]]
abbrev mem22 (x0 : Addr) : Mem := [ob x0 "com/example/clauseline/clauseline/service/TakenPieces" [("com/example/clauseline/clauseline/service/TakenPieces", "words", "I", (.int (1 : Int32))), ("com/example/clauseline/clauseline/service/TakenPieces", "taken", "[J", .null), ("com/example/clauseline/clauseline/service/TakenPieces", "splits", "[J", .null), ("com/example/clauseline/clauseline/service/TakenPieces", "prefix", "[I", .null), ("com/example/clauseline/clauseline/service/TakenPieces", "suffix", "[I", .null), ("com/example/clauseline/clauseline/service/TakenPieces", "longest", "[I", .null), ("com/example/clauseline/clauseline/service/TakenPieces", "stale", "[Z", .null)]]
abbrev mem23 (x0 : Addr) (x1 : Addr) : Mem := [ob x0 "com/example/clauseline/clauseline/service/TakenPieces" [("com/example/clauseline/clauseline/service/TakenPieces", "words", "I", (.int (1 : Int32))), ("com/example/clauseline/clauseline/service/TakenPieces", "taken", "[J", .null), ("com/example/clauseline/clauseline/service/TakenPieces", "splits", "[J", .null), ("com/example/clauseline/clauseline/service/TakenPieces", "prefix", "[I", .null), ("com/example/clauseline/clauseline/service/TakenPieces", "suffix", "[I", .null), ("com/example/clauseline/clauseline/service/TakenPieces", "longest", "[I", .null), ("com/example/clauseline/clauseline/service/TakenPieces", "stale", "[Z", .null)], ar x1 .long [(.long (0 : Int64))]]
abbrev mem24 (x0 : Addr) (x1 : Addr) : Mem := [ob x0 "com/example/clauseline/clauseline/service/TakenPieces" [("com/example/clauseline/clauseline/service/TakenPieces", "words", "I", (.int (1 : Int32))), ("com/example/clauseline/clauseline/service/TakenPieces", "taken", "[J", (.ref x1)), ("com/example/clauseline/clauseline/service/TakenPieces", "splits", "[J", .null), ("com/example/clauseline/clauseline/service/TakenPieces", "prefix", "[I", .null), ("com/example/clauseline/clauseline/service/TakenPieces", "suffix", "[I", .null), ("com/example/clauseline/clauseline/service/TakenPieces", "longest", "[I", .null), ("com/example/clauseline/clauseline/service/TakenPieces", "stale", "[Z", .null)], ar x1 .long [(.long (0 : Int64))]]
abbrev mem25 (x0 : Addr) (x1 : Addr) (x2 : Addr) : Mem := [ob x0 "com/example/clauseline/clauseline/service/TakenPieces" [("com/example/clauseline/clauseline/service/TakenPieces", "words", "I", (.int (1 : Int32))), ("com/example/clauseline/clauseline/service/TakenPieces", "taken", "[J", (.ref x1)), ("com/example/clauseline/clauseline/service/TakenPieces", "splits", "[J", .null), ("com/example/clauseline/clauseline/service/TakenPieces", "prefix", "[I", .null), ("com/example/clauseline/clauseline/service/TakenPieces", "suffix", "[I", .null), ("com/example/clauseline/clauseline/service/TakenPieces", "longest", "[I", .null), ("com/example/clauseline/clauseline/service/TakenPieces", "stale", "[Z", .null)], ar x1 .long [(.long (0 : Int64))], ar x2 .long [(.long (0 : Int64))]]
abbrev mem26 (x0 : Addr) (x1 : Addr) (x2 : Addr) : Mem := [ob x0 "com/example/clauseline/clauseline/service/TakenPieces" [("com/example/clauseline/clauseline/service/TakenPieces", "words", "I", (.int (1 : Int32))), ("com/example/clauseline/clauseline/service/TakenPieces", "taken", "[J", (.ref x1)), ("com/example/clauseline/clauseline/service/TakenPieces", "splits", "[J", (.ref x2)), ("com/example/clauseline/clauseline/service/TakenPieces", "prefix", "[I", .null), ("com/example/clauseline/clauseline/service/TakenPieces", "suffix", "[I", .null), ("com/example/clauseline/clauseline/service/TakenPieces", "longest", "[I", .null), ("com/example/clauseline/clauseline/service/TakenPieces", "stale", "[Z", .null)], ar x1 .long [(.long (0 : Int64))], ar x2 .long [(.long (0 : Int64))]]
abbrev mem27 (x0 : Addr) (x1 : Addr) (x2 : Addr) (x3 : Addr) : Mem := [ob x0 "com/example/clauseline/clauseline/service/TakenPieces" [("com/example/clauseline/clauseline/service/TakenPieces", "words", "I", (.int (1 : Int32))), ("com/example/clauseline/clauseline/service/TakenPieces", "taken", "[J", (.ref x1)), ("com/example/clauseline/clauseline/service/TakenPieces", "splits", "[J", (.ref x2)), ("com/example/clauseline/clauseline/service/TakenPieces", "prefix", "[I", .null), ("com/example/clauseline/clauseline/service/TakenPieces", "suffix", "[I", .null), ("com/example/clauseline/clauseline/service/TakenPieces", "longest", "[I", .null), ("com/example/clauseline/clauseline/service/TakenPieces", "stale", "[Z", .null)], ar x1 .long [(.long (0 : Int64))], ar x2 .long [(.long (0 : Int64))], ar x3 .int [(.int (0 : Int32)), (.int (0 : Int32))]]
abbrev mem28 (x0 : Addr) (x1 : Addr) (x2 : Addr) (x3 : Addr) : Mem := [ob x0 "com/example/clauseline/clauseline/service/TakenPieces" [("com/example/clauseline/clauseline/service/TakenPieces", "words", "I", (.int (1 : Int32))), ("com/example/clauseline/clauseline/service/TakenPieces", "taken", "[J", (.ref x1)), ("com/example/clauseline/clauseline/service/TakenPieces", "splits", "[J", (.ref x2)), ("com/example/clauseline/clauseline/service/TakenPieces", "prefix", "[I", (.ref x3)), ("com/example/clauseline/clauseline/service/TakenPieces", "suffix", "[I", .null), ("com/example/clauseline/clauseline/service/TakenPieces", "longest", "[I", .null), ("com/example/clauseline/clauseline/service/TakenPieces", "stale", "[Z", .null)], ar x1 .long [(.long (0 : Int64))], ar x2 .long [(.long (0 : Int64))], ar x3 .int [(.int (0 : Int32)), (.int (0 : Int32))]]
abbrev mem29 (x0 : Addr) (x1 : Addr) (x2 : Addr) (x3 : Addr) (x4 : Addr) : Mem := [ob x0 "com/example/clauseline/clauseline/service/TakenPieces" [("com/example/clauseline/clauseline/service/TakenPieces", "words", "I", (.int (1 : Int32))), ("com/example/clauseline/clauseline/service/TakenPieces", "taken", "[J", (.ref x1)), ("com/example/clauseline/clauseline/service/TakenPieces", "splits", "[J", (.ref x2)), ("com/example/clauseline/clauseline/service/TakenPieces", "prefix", "[I", (.ref x3)), ("com/example/clauseline/clauseline/service/TakenPieces", "suffix", "[I", .null), ("com/example/clauseline/clauseline/service/TakenPieces", "longest", "[I", .null), ("com/example/clauseline/clauseline/service/TakenPieces", "stale", "[Z", .null)], ar x1 .long [(.long (0 : Int64))], ar x2 .long [(.long (0 : Int64))], ar x3 .int [(.int (0 : Int32)), (.int (0 : Int32))], ar x4 .int [(.int (0 : Int32)), (.int (0 : Int32))]]
abbrev mem30 (x0 : Addr) (x1 : Addr) (x2 : Addr) (x3 : Addr) (x4 : Addr) : Mem := [ob x0 "com/example/clauseline/clauseline/service/TakenPieces" [("com/example/clauseline/clauseline/service/TakenPieces", "words", "I", (.int (1 : Int32))), ("com/example/clauseline/clauseline/service/TakenPieces", "taken", "[J", (.ref x1)), ("com/example/clauseline/clauseline/service/TakenPieces", "splits", "[J", (.ref x2)), ("com/example/clauseline/clauseline/service/TakenPieces", "prefix", "[I", (.ref x3)), ("com/example/clauseline/clauseline/service/TakenPieces", "suffix", "[I", (.ref x4)), ("com/example/clauseline/clauseline/service/TakenPieces", "longest", "[I", .null), ("com/example/clauseline/clauseline/service/TakenPieces", "stale", "[Z", .null)], ar x1 .long [(.long (0 : Int64))], ar x2 .long [(.long (0 : Int64))], ar x3 .int [(.int (0 : Int32)), (.int (0 : Int32))], ar x4 .int [(.int (0 : Int32)), (.int (0 : Int32))]]
abbrev mem31 (x0 : Addr) (x1 : Addr) (x2 : Addr) (x3 : Addr) (x4 : Addr) (x5 : Addr) : Mem := [ob x0 "com/example/clauseline/clauseline/service/TakenPieces" [("com/example/clauseline/clauseline/service/TakenPieces", "words", "I", (.int (1 : Int32))), ("com/example/clauseline/clauseline/service/TakenPieces", "taken", "[J", (.ref x1)), ("com/example/clauseline/clauseline/service/TakenPieces", "splits", "[J", (.ref x2)), ("com/example/clauseline/clauseline/service/TakenPieces", "prefix", "[I", (.ref x3)), ("com/example/clauseline/clauseline/service/TakenPieces", "suffix", "[I", (.ref x4)), ("com/example/clauseline/clauseline/service/TakenPieces", "longest", "[I", .null), ("com/example/clauseline/clauseline/service/TakenPieces", "stale", "[Z", .null)], ar x1 .long [(.long (0 : Int64))], ar x2 .long [(.long (0 : Int64))], ar x3 .int [(.int (0 : Int32)), (.int (0 : Int32))], ar x4 .int [(.int (0 : Int32)), (.int (0 : Int32))], ar x5 .int [(.int (0 : Int32)), (.int (0 : Int32))]]
abbrev mem32 (x0 : Addr) (x1 : Addr) (x2 : Addr) (x3 : Addr) (x4 : Addr) (x5 : Addr) : Mem := [ob x0 "com/example/clauseline/clauseline/service/TakenPieces" [("com/example/clauseline/clauseline/service/TakenPieces", "words", "I", (.int (1 : Int32))), ("com/example/clauseline/clauseline/service/TakenPieces", "taken", "[J", (.ref x1)), ("com/example/clauseline/clauseline/service/TakenPieces", "splits", "[J", (.ref x2)), ("com/example/clauseline/clauseline/service/TakenPieces", "prefix", "[I", (.ref x3)), ("com/example/clauseline/clauseline/service/TakenPieces", "suffix", "[I", (.ref x4)), ("com/example/clauseline/clauseline/service/TakenPieces", "longest", "[I", (.ref x5)), ("com/example/clauseline/clauseline/service/TakenPieces", "stale", "[Z", .null)], ar x1 .long [(.long (0 : Int64))], ar x2 .long [(.long (0 : Int64))], ar x3 .int [(.int (0 : Int32)), (.int (0 : Int32))], ar x4 .int [(.int (0 : Int32)), (.int (0 : Int32))], ar x5 .int [(.int (0 : Int32)), (.int (0 : Int32))]]
abbrev mem33 (x0 : Addr) : Mem := [ob x0 "com/example/clauseline/clauseline/service/TakenPieces" [("com/example/clauseline/clauseline/service/TakenPieces", "words", "I", (.int (2 : Int32))), ("com/example/clauseline/clauseline/service/TakenPieces", "taken", "[J", .null), ("com/example/clauseline/clauseline/service/TakenPieces", "splits", "[J", .null), ("com/example/clauseline/clauseline/service/TakenPieces", "prefix", "[I", .null), ("com/example/clauseline/clauseline/service/TakenPieces", "suffix", "[I", .null), ("com/example/clauseline/clauseline/service/TakenPieces", "longest", "[I", .null), ("com/example/clauseline/clauseline/service/TakenPieces", "stale", "[Z", .null)]]
abbrev mem34 (x0 : Addr) (x1 : Addr) : Mem := [ob x0 "com/example/clauseline/clauseline/service/TakenPieces" [("com/example/clauseline/clauseline/service/TakenPieces", "words", "I", (.int (2 : Int32))), ("com/example/clauseline/clauseline/service/TakenPieces", "taken", "[J", .null), ("com/example/clauseline/clauseline/service/TakenPieces", "splits", "[J", .null), ("com/example/clauseline/clauseline/service/TakenPieces", "prefix", "[I", .null), ("com/example/clauseline/clauseline/service/TakenPieces", "suffix", "[I", .null), ("com/example/clauseline/clauseline/service/TakenPieces", "longest", "[I", .null), ("com/example/clauseline/clauseline/service/TakenPieces", "stale", "[Z", .null)], ar x1 .long [(.long (0 : Int64)), (.long (0 : Int64))]]
abbrev mem35 (x0 : Addr) (x1 : Addr) : Mem := [ob x0 "com/example/clauseline/clauseline/service/TakenPieces" [("com/example/clauseline/clauseline/service/TakenPieces", "words", "I", (.int (2 : Int32))), ("com/example/clauseline/clauseline/service/TakenPieces", "taken", "[J", (.ref x1)), ("com/example/clauseline/clauseline/service/TakenPieces", "splits", "[J", .null), ("com/example/clauseline/clauseline/service/TakenPieces", "prefix", "[I", .null), ("com/example/clauseline/clauseline/service/TakenPieces", "suffix", "[I", .null), ("com/example/clauseline/clauseline/service/TakenPieces", "longest", "[I", .null), ("com/example/clauseline/clauseline/service/TakenPieces", "stale", "[Z", .null)], ar x1 .long [(.long (0 : Int64)), (.long (0 : Int64))]]
abbrev mem36 (x0 : Addr) (x1 : Addr) (x2 : Addr) : Mem := [ob x0 "com/example/clauseline/clauseline/service/TakenPieces" [("com/example/clauseline/clauseline/service/TakenPieces", "words", "I", (.int (2 : Int32))), ("com/example/clauseline/clauseline/service/TakenPieces", "taken", "[J", (.ref x1)), ("com/example/clauseline/clauseline/service/TakenPieces", "splits", "[J", .null), ("com/example/clauseline/clauseline/service/TakenPieces", "prefix", "[I", .null), ("com/example/clauseline/clauseline/service/TakenPieces", "suffix", "[I", .null), ("com/example/clauseline/clauseline/service/TakenPieces", "longest", "[I", .null), ("com/example/clauseline/clauseline/service/TakenPieces", "stale", "[Z", .null)], ar x1 .long [(.long (0 : Int64)), (.long (0 : Int64))], ar x2 .long [(.long (0 : Int64)), (.long (0 : Int64))]]
abbrev mem37 (x0 : Addr) (x1 : Addr) (x2 : Addr) : Mem := [ob x0 "com/example/clauseline/clauseline/service/TakenPieces" [("com/example/clauseline/clauseline/service/TakenPieces", "words", "I", (.int (2 : Int32))), ("com/example/clauseline/clauseline/service/TakenPieces", "taken", "[J", (.ref x1)), ("com/example/clauseline/clauseline/service/TakenPieces", "splits", "[J", (.ref x2)), ("com/example/clauseline/clauseline/service/TakenPieces", "prefix", "[I", .null), ("com/example/clauseline/clauseline/service/TakenPieces", "suffix", "[I", .null), ("com/example/clauseline/clauseline/service/TakenPieces", "longest", "[I", .null), ("com/example/clauseline/clauseline/service/TakenPieces", "stale", "[Z", .null)], ar x1 .long [(.long (0 : Int64)), (.long (0 : Int64))], ar x2 .long [(.long (0 : Int64)), (.long (0 : Int64))]]
abbrev mem38 (x0 : Addr) (x1 : Addr) (x2 : Addr) (x3 : Addr) : Mem := [ob x0 "com/example/clauseline/clauseline/service/TakenPieces" [("com/example/clauseline/clauseline/service/TakenPieces", "words", "I", (.int (2 : Int32))), ("com/example/clauseline/clauseline/service/TakenPieces", "taken", "[J", (.ref x1)), ("com/example/clauseline/clauseline/service/TakenPieces", "splits", "[J", (.ref x2)), ("com/example/clauseline/clauseline/service/TakenPieces", "prefix", "[I", .null), ("com/example/clauseline/clauseline/service/TakenPieces", "suffix", "[I", .null), ("com/example/clauseline/clauseline/service/TakenPieces", "longest", "[I", .null), ("com/example/clauseline/clauseline/service/TakenPieces", "stale", "[Z", .null)], ar x1 .long [(.long (0 : Int64)), (.long (0 : Int64))], ar x2 .long [(.long (0 : Int64)), (.long (0 : Int64))], ar x3 .int [(.int (0 : Int32)), (.int (0 : Int32)), (.int (0 : Int32)), (.int (0 : Int32))]]
abbrev mem39 (x0 : Addr) (x1 : Addr) (x2 : Addr) (x3 : Addr) : Mem := [ob x0 "com/example/clauseline/clauseline/service/TakenPieces" [("com/example/clauseline/clauseline/service/TakenPieces", "words", "I", (.int (2 : Int32))), ("com/example/clauseline/clauseline/service/TakenPieces", "taken", "[J", (.ref x1)), ("com/example/clauseline/clauseline/service/TakenPieces", "splits", "[J", (.ref x2)), ("com/example/clauseline/clauseline/service/TakenPieces", "prefix", "[I", (.ref x3)), ("com/example/clauseline/clauseline/service/TakenPieces", "suffix", "[I", .null), ("com/example/clauseline/clauseline/service/TakenPieces", "longest", "[I", .null), ("com/example/clauseline/clauseline/service/TakenPieces", "stale", "[Z", .null)], ar x1 .long [(.long (0 : Int64)), (.long (0 : Int64))], ar x2 .long [(.long (0 : Int64)), (.long (0 : Int64))], ar x3 .int [(.int (0 : Int32)), (.int (0 : Int32)), (.int (0 : Int32)), (.int (0 : Int32))]]
abbrev mem40 (x0 : Addr) (x1 : Addr) (x2 : Addr) (x3 : Addr) (x4 : Addr) : Mem := [ob x0 "com/example/clauseline/clauseline/service/TakenPieces" [("com/example/clauseline/clauseline/service/TakenPieces", "words", "I", (.int (2 : Int32))), ("com/example/clauseline/clauseline/service/TakenPieces", "taken", "[J", (.ref x1)), ("com/example/clauseline/clauseline/service/TakenPieces", "splits", "[J", (.ref x2)), ("com/example/clauseline/clauseline/service/TakenPieces", "prefix", "[I", (.ref x3)), ("com/example/clauseline/clauseline/service/TakenPieces", "suffix", "[I", .null), ("com/example/clauseline/clauseline/service/TakenPieces", "longest", "[I", .null), ("com/example/clauseline/clauseline/service/TakenPieces", "stale", "[Z", .null)], ar x1 .long [(.long (0 : Int64)), (.long (0 : Int64))], ar x2 .long [(.long (0 : Int64)), (.long (0 : Int64))], ar x3 .int [(.int (0 : Int32)), (.int (0 : Int32)), (.int (0 : Int32)), (.int (0 : Int32))], ar x4 .int [(.int (0 : Int32)), (.int (0 : Int32)), (.int (0 : Int32)), (.int (0 : Int32))]]
abbrev mem41 (x0 : Addr) (x1 : Addr) (x2 : Addr) (x3 : Addr) (x4 : Addr) : Mem := [ob x0 "com/example/clauseline/clauseline/service/TakenPieces" [("com/example/clauseline/clauseline/service/TakenPieces", "words", "I", (.int (2 : Int32))), ("com/example/clauseline/clauseline/service/TakenPieces", "taken", "[J", (.ref x1)), ("com/example/clauseline/clauseline/service/TakenPieces", "splits", "[J", (.ref x2)), ("com/example/clauseline/clauseline/service/TakenPieces", "prefix", "[I", (.ref x3)), ("com/example/clauseline/clauseline/service/TakenPieces", "suffix", "[I", (.ref x4)), ("com/example/clauseline/clauseline/service/TakenPieces", "longest", "[I", .null), ("com/example/clauseline/clauseline/service/TakenPieces", "stale", "[Z", .null)], ar x1 .long [(.long (0 : Int64)), (.long (0 : Int64))], ar x2 .long [(.long (0 : Int64)), (.long (0 : Int64))], ar x3 .int [(.int (0 : Int32)), (.int (0 : Int32)), (.int (0 : Int32)), (.int (0 : Int32))], ar x4 .int [(.int (0 : Int32)), (.int (0 : Int32)), (.int (0 : Int32)), (.int (0 : Int32))]]
abbrev mem42 (x0 : Addr) (x1 : Addr) (x2 : Addr) (x3 : Addr) (x4 : Addr) (x5 : Addr) : Mem := [ob x0 "com/example/clauseline/clauseline/service/TakenPieces" [("com/example/clauseline/clauseline/service/TakenPieces", "words", "I", (.int (2 : Int32))), ("com/example/clauseline/clauseline/service/TakenPieces", "taken", "[J", (.ref x1)), ("com/example/clauseline/clauseline/service/TakenPieces", "splits", "[J", (.ref x2)), ("com/example/clauseline/clauseline/service/TakenPieces", "prefix", "[I", (.ref x3)), ("com/example/clauseline/clauseline/service/TakenPieces", "suffix", "[I", (.ref x4)), ("com/example/clauseline/clauseline/service/TakenPieces", "longest", "[I", .null), ("com/example/clauseline/clauseline/service/TakenPieces", "stale", "[Z", .null)], ar x1 .long [(.long (0 : Int64)), (.long (0 : Int64))], ar x2 .long [(.long (0 : Int64)), (.long (0 : Int64))], ar x3 .int [(.int (0 : Int32)), (.int (0 : Int32)), (.int (0 : Int32)), (.int (0 : Int32))], ar x4 .int [(.int (0 : Int32)), (.int (0 : Int32)), (.int (0 : Int32)), (.int (0 : Int32))], ar x5 .int [(.int (0 : Int32)), (.int (0 : Int32)), (.int (0 : Int32)), (.int (0 : Int32))]]
abbrev mem43 (x0 : Addr) (x1 : Addr) (x2 : Addr) (x3 : Addr) (x4 : Addr) (x5 : Addr) : Mem := [ob x0 "com/example/clauseline/clauseline/service/TakenPieces" [("com/example/clauseline/clauseline/service/TakenPieces", "words", "I", (.int (2 : Int32))), ("com/example/clauseline/clauseline/service/TakenPieces", "taken", "[J", (.ref x1)), ("com/example/clauseline/clauseline/service/TakenPieces", "splits", "[J", (.ref x2)), ("com/example/clauseline/clauseline/service/TakenPieces", "prefix", "[I", (.ref x3)), ("com/example/clauseline/clauseline/service/TakenPieces", "suffix", "[I", (.ref x4)), ("com/example/clauseline/clauseline/service/TakenPieces", "longest", "[I", (.ref x5)), ("com/example/clauseline/clauseline/service/TakenPieces", "stale", "[Z", .null)], ar x1 .long [(.long (0 : Int64)), (.long (0 : Int64))], ar x2 .long [(.long (0 : Int64)), (.long (0 : Int64))], ar x3 .int [(.int (0 : Int32)), (.int (0 : Int32)), (.int (0 : Int32)), (.int (0 : Int32))], ar x4 .int [(.int (0 : Int32)), (.int (0 : Int32)), (.int (0 : Int32)), (.int (0 : Int32))], ar x5 .int [(.int (0 : Int32)), (.int (0 : Int32)), (.int (0 : Int32)), (.int (0 : Int32))]]
abbrev mem44 (x0 : Addr) : Mem := [ob x0 "com/example/clauseline/clauseline/service/TakenPieces" [("com/example/clauseline/clauseline/service/TakenPieces", "words", "I", (.int (4 : Int32))), ("com/example/clauseline/clauseline/service/TakenPieces", "taken", "[J", .null), ("com/example/clauseline/clauseline/service/TakenPieces", "splits", "[J", .null), ("com/example/clauseline/clauseline/service/TakenPieces", "prefix", "[I", .null), ("com/example/clauseline/clauseline/service/TakenPieces", "suffix", "[I", .null), ("com/example/clauseline/clauseline/service/TakenPieces", "longest", "[I", .null), ("com/example/clauseline/clauseline/service/TakenPieces", "stale", "[Z", .null)]]
abbrev mem45 (x0 : Addr) (x1 : Addr) : Mem := [ob x0 "com/example/clauseline/clauseline/service/TakenPieces" [("com/example/clauseline/clauseline/service/TakenPieces", "words", "I", (.int (4 : Int32))), ("com/example/clauseline/clauseline/service/TakenPieces", "taken", "[J", .null), ("com/example/clauseline/clauseline/service/TakenPieces", "splits", "[J", .null), ("com/example/clauseline/clauseline/service/TakenPieces", "prefix", "[I", .null), ("com/example/clauseline/clauseline/service/TakenPieces", "suffix", "[I", .null), ("com/example/clauseline/clauseline/service/TakenPieces", "longest", "[I", .null), ("com/example/clauseline/clauseline/service/TakenPieces", "stale", "[Z", .null)], ar x1 .long [(.long (0 : Int64)), (.long (0 : Int64)), (.long (0 : Int64)), (.long (0 : Int64))]]
abbrev mem46 (x0 : Addr) (x1 : Addr) : Mem := [ob x0 "com/example/clauseline/clauseline/service/TakenPieces" [("com/example/clauseline/clauseline/service/TakenPieces", "words", "I", (.int (4 : Int32))), ("com/example/clauseline/clauseline/service/TakenPieces", "taken", "[J", (.ref x1)), ("com/example/clauseline/clauseline/service/TakenPieces", "splits", "[J", .null), ("com/example/clauseline/clauseline/service/TakenPieces", "prefix", "[I", .null), ("com/example/clauseline/clauseline/service/TakenPieces", "suffix", "[I", .null), ("com/example/clauseline/clauseline/service/TakenPieces", "longest", "[I", .null), ("com/example/clauseline/clauseline/service/TakenPieces", "stale", "[Z", .null)], ar x1 .long [(.long (0 : Int64)), (.long (0 : Int64)), (.long (0 : Int64)), (.long (0 : Int64))]]
abbrev mem47 (x0 : Addr) (x1 : Addr) (x2 : Addr) : Mem := [ob x0 "com/example/clauseline/clauseline/service/TakenPieces" [("com/example/clauseline/clauseline/service/TakenPieces", "words", "I", (.int (4 : Int32))), ("com/example/clauseline/clauseline/service/TakenPieces", "taken", "[J", (.ref x1)), ("com/example/clauseline/clauseline/service/TakenPieces", "splits", "[J", .null), ("com/example/clauseline/clauseline/service/TakenPieces", "prefix", "[I", .null), ("com/example/clauseline/clauseline/service/TakenPieces", "suffix", "[I", .null), ("com/example/clauseline/clauseline/service/TakenPieces", "longest", "[I", .null), ("com/example/clauseline/clauseline/service/TakenPieces", "stale", "[Z", .null)], ar x1 .long [(.long (0 : Int64)), (.long (0 : Int64)), (.long (0 : Int64)), (.long (0 : Int64))], ar x2 .long [(.long (0 : Int64)), (.long (0 : Int64)), (.long (0 : Int64)), (.long (0 : Int64))]]
abbrev mem48 (x0 : Addr) (x1 : Addr) (x2 : Addr) : Mem := [ob x0 "com/example/clauseline/clauseline/service/TakenPieces" [("com/example/clauseline/clauseline/service/TakenPieces", "words", "I", (.int (4 : Int32))), ("com/example/clauseline/clauseline/service/TakenPieces", "taken", "[J", (.ref x1)), ("com/example/clauseline/clauseline/service/TakenPieces", "splits", "[J", (.ref x2)), ("com/example/clauseline/clauseline/service/TakenPieces", "prefix", "[I", .null), ("com/example/clauseline/clauseline/service/TakenPieces", "suffix", "[I", .null), ("com/example/clauseline/clauseline/service/TakenPieces", "longest", "[I", .null), ("com/example/clauseline/clauseline/service/TakenPieces", "stale", "[Z", .null)], ar x1 .long [(.long (0 : Int64)), (.long (0 : Int64)), (.long (0 : Int64)), (.long (0 : Int64))], ar x2 .long [(.long (0 : Int64)), (.long (0 : Int64)), (.long (0 : Int64)), (.long (0 : Int64))]]
abbrev mem49 (x0 : Addr) (x1 : Addr) (x2 : Addr) (x3 : Addr) : Mem := [ob x0 "com/example/clauseline/clauseline/service/TakenPieces" [("com/example/clauseline/clauseline/service/TakenPieces", "words", "I", (.int (4 : Int32))), ("com/example/clauseline/clauseline/service/TakenPieces", "taken", "[J", (.ref x1)), ("com/example/clauseline/clauseline/service/TakenPieces", "splits", "[J", (.ref x2)), ("com/example/clauseline/clauseline/service/TakenPieces", "prefix", "[I", .null), ("com/example/clauseline/clauseline/service/TakenPieces", "suffix", "[I", .null), ("com/example/clauseline/clauseline/service/TakenPieces", "longest", "[I", .null), ("com/example/clauseline/clauseline/service/TakenPieces", "stale", "[Z", .null)], ar x1 .long [(.long (0 : Int64)), (.long (0 : Int64)), (.long (0 : Int64)), (.long (0 : Int64))], ar x2 .long [(.long (0 : Int64)), (.long (0 : Int64)), (.long (0 : Int64)), (.long (0 : Int64))], ar x3 .int [(.int (0 : Int32)), (.int (0 : Int32)), (.int (0 : Int32)), (.int (0 : Int32)), (.int (0 : Int32)), (.int (0 : Int32)), (.int (0 : Int32)), (.int (0 : Int32))]]
abbrev mem50 (x0 : Addr) (x1 : Addr) (x2 : Addr) (x3 : Addr) : Mem := [ob x0 "com/example/clauseline/clauseline/service/TakenPieces" [("com/example/clauseline/clauseline/service/TakenPieces", "words", "I", (.int (4 : Int32))), ("com/example/clauseline/clauseline/service/TakenPieces", "taken", "[J", (.ref x1)), ("com/example/clauseline/clauseline/service/TakenPieces", "splits", "[J", (.ref x2)), ("com/example/clauseline/clauseline/service/TakenPieces", "prefix", "[I", (.ref x3)), ("com/example/clauseline/clauseline/service/TakenPieces", "suffix", "[I", .null), ("com/example/clauseline/clauseline/service/TakenPieces", "longest", "[I", .null), ("com/example/clauseline/clauseline/service/TakenPieces", "stale", "[Z", .null)], ar x1 .long [(.long (0 : Int64)), (.long (0 : Int64)), (.long (0 : Int64)), (.long (0 : Int64))], ar x2 .long [(.long (0 : Int64)), (.long (0 : Int64)), (.long (0 : Int64)), (.long (0 : Int64))], ar x3 .int [(.int (0 : Int32)), (.int (0 : Int32)), (.int (0 : Int32)), (.int (0 : Int32)), (.int (0 : Int32)), (.int (0 : Int32)), (.int (0 : Int32)), (.int (0 : Int32))]]
abbrev mem51 (x0 : Addr) (x1 : Addr) (x2 : Addr) (x3 : Addr) (x4 : Addr) : Mem := [ob x0 "com/example/clauseline/clauseline/service/TakenPieces" [("com/example/clauseline/clauseline/service/TakenPieces", "words", "I", (.int (4 : Int32))), ("com/example/clauseline/clauseline/service/TakenPieces", "taken", "[J", (.ref x1)), ("com/example/clauseline/clauseline/service/TakenPieces", "splits", "[J", (.ref x2)), ("com/example/clauseline/clauseline/service/TakenPieces", "prefix", "[I", (.ref x3)), ("com/example/clauseline/clauseline/service/TakenPieces", "suffix", "[I", .null), ("com/example/clauseline/clauseline/service/TakenPieces", "longest", "[I", .null), ("com/example/clauseline/clauseline/service/TakenPieces", "stale", "[Z", .null)], ar x1 .long [(.long (0 : Int64)), (.long (0 : Int64)), (.long (0 : Int64)), (.long (0 : Int64))], ar x2 .long [(.long (0 : Int64)), (.long (0 : Int64)), (.long (0 : Int64)), (.long (0 : Int64))], ar x3 .int [(.int (0 : Int32)), (.int (0 : Int32)), (.int (0 : Int32)), (.int (0 : Int32)), (.int (0 : Int32)), (.int (0 : Int32)), (.int (0 : Int32)), (.int (0 : Int32))], ar x4 .int [(.int (0 : Int32)), (.int (0 : Int32)), (.int (0 : Int32)), (.int (0 : Int32)), (.int (0 : Int32)), (.int (0 : Int32)), (.int (0 : Int32)), (.int (0 : Int32))]]
abbrev mem52 (x0 : Addr) (x1 : Addr) (x2 : Addr) (x3 : Addr) (x4 : Addr) : Mem := [ob x0 "com/example/clauseline/clauseline/service/TakenPieces" [("com/example/clauseline/clauseline/service/TakenPieces", "words", "I", (.int (4 : Int32))), ("com/example/clauseline/clauseline/service/TakenPieces", "taken", "[J", (.ref x1)), ("com/example/clauseline/clauseline/service/TakenPieces", "splits", "[J", (.ref x2)), ("com/example/clauseline/clauseline/service/TakenPieces", "prefix", "[I", (.ref x3)), ("com/example/clauseline/clauseline/service/TakenPieces", "suffix", "[I", (.ref x4)), ("com/example/clauseline/clauseline/service/TakenPieces", "longest", "[I", .null), ("com/example/clauseline/clauseline/service/TakenPieces", "stale", "[Z", .null)], ar x1 .long [(.long (0 : Int64)), (.long (0 : Int64)), (.long (0 : Int64)), (.long (0 : Int64))], ar x2 .long [(.long (0 : Int64)), (.long (0 : Int64)), (.long (0 : Int64)), (.long (0 : Int64))], ar x3 .int [(.int (0 : Int32)), (.int (0 : Int32)), (.int (0 : Int32)), (.int (0 : Int32)), (.int (0 : Int32)), (.int (0 : Int32)), (.int (0 : Int32)), (.int (0 : Int32))], ar x4 .int [(.int (0 : Int32)), (.int (0 : Int32)), (.int (0 : Int32)), (.int (0 : Int32)), (.int (0 : Int32)), (.int (0 : Int32)), (.int (0 : Int32)), (.int (0 : Int32))]]
abbrev mem53 (x0 : Addr) (x1 : Addr) (x2 : Addr) (x3 : Addr) (x4 : Addr) (x5 : Addr) : Mem := [ob x0 "com/example/clauseline/clauseline/service/TakenPieces" [("com/example/clauseline/clauseline/service/TakenPieces", "words", "I", (.int (4 : Int32))), ("com/example/clauseline/clauseline/service/TakenPieces", "taken", "[J", (.ref x1)), ("com/example/clauseline/clauseline/service/TakenPieces", "splits", "[J", (.ref x2)), ("com/example/clauseline/clauseline/service/TakenPieces", "prefix", "[I", (.ref x3)), ("com/example/clauseline/clauseline/service/TakenPieces", "suffix", "[I", (.ref x4)), ("com/example/clauseline/clauseline/service/TakenPieces", "longest", "[I", .null), ("com/example/clauseline/clauseline/service/TakenPieces", "stale", "[Z", .null)], ar x1 .long [(.long (0 : Int64)), (.long (0 : Int64)), (.long (0 : Int64)), (.long (0 : Int64))], ar x2 .long [(.long (0 : Int64)), (.long (0 : Int64)), (.long (0 : Int64)), (.long (0 : Int64))], ar x3 .int [(.int (0 : Int32)), (.int (0 : Int32)), (.int (0 : Int32)), (.int (0 : Int32)), (.int (0 : Int32)), (.int (0 : Int32)), (.int (0 : Int32)), (.int (0 : Int32))], ar x4 .int [(.int (0 : Int32)), (.int (0 : Int32)), (.int (0 : Int32)), (.int (0 : Int32)), (.int (0 : Int32)), (.int (0 : Int32)), (.int (0 : Int32)), (.int (0 : Int32))], ar x5 .int [(.int (0 : Int32)), (.int (0 : Int32)), (.int (0 : Int32)), (.int (0 : Int32)), (.int (0 : Int32)), (.int (0 : Int32)), (.int (0 : Int32)), (.int (0 : Int32))]]
abbrev mem54 (x0 : Addr) (x1 : Addr) (x2 : Addr) (x3 : Addr) (x4 : Addr) (x5 : Addr) : Mem := [ob x0 "com/example/clauseline/clauseline/service/TakenPieces" [("com/example/clauseline/clauseline/service/TakenPieces", "words", "I", (.int (4 : Int32))), ("com/example/clauseline/clauseline/service/TakenPieces", "taken", "[J", (.ref x1)), ("com/example/clauseline/clauseline/service/TakenPieces", "splits", "[J", (.ref x2)), ("com/example/clauseline/clauseline/service/TakenPieces", "prefix", "[I", (.ref x3)), ("com/example/clauseline/clauseline/service/TakenPieces", "suffix", "[I", (.ref x4)), ("com/example/clauseline/clauseline/service/TakenPieces", "longest", "[I", (.ref x5)), ("com/example/clauseline/clauseline/service/TakenPieces", "stale", "[Z", .null)], ar x1 .long [(.long (0 : Int64)), (.long (0 : Int64)), (.long (0 : Int64)), (.long (0 : Int64))], ar x2 .long [(.long (0 : Int64)), (.long (0 : Int64)), (.long (0 : Int64)), (.long (0 : Int64))], ar x3 .int [(.int (0 : Int32)), (.int (0 : Int32)), (.int (0 : Int32)), (.int (0 : Int32)), (.int (0 : Int32)), (.int (0 : Int32)), (.int (0 : Int32)), (.int (0 : Int32))], ar x4 .int [(.int (0 : Int32)), (.int (0 : Int32)), (.int (0 : Int32)), (.int (0 : Int32)), (.int (0 : Int32)), (.int (0 : Int32)), (.int (0 : Int32)), (.int (0 : Int32))], ar x5 .int [(.int (0 : Int32)), (.int (0 : Int32)), (.int (0 : Int32)), (.int (0 : Int32)), (.int (0 : Int32)), (.int (0 : Int32)), (.int (0 : Int32)), (.int (0 : Int32))]]

theorem d1_0 : decode jdk_29_method_69_code 0 = .ok (.iload_n 0, 1) := by decide +kernel
theorem d1_1 : decode jdk_29_method_69_code 1 = .ok (.iload_n 1, 1) := by decide +kernel
theorem d1_2 : decode jdk_29_method_69_code 2 = .ok (.if_icmp .gt 7, 3) := by decide +kernel
theorem d1_5 : decode jdk_29_method_69_code 5 = .ok (.iload_n 0, 1) := by decide +kernel
theorem d1_6 : decode jdk_29_method_69_code 6 = .ok (.goto 4, 3) := by decide +kernel
theorem d1_9 : decode jdk_29_method_69_code 9 = .ok (.iload_n 1, 1) := by decide +kernel
theorem d1_10 : decode jdk_29_method_69_code 10 = .ok (.ireturn, 1) := by decide +kernel
theorem pn1 : plainFor (⟨"java/lang/Math", "min", "(II)I"⟩ : MethodName) = true := by first | (apply plainFor_of_name; simp [plainName, overriddenIn]; done) | decide +kernel
def B1 : Bdy := (⟨"java/lang/Math", "min", "(II)I"⟩, jdk_29_method_69_code, 2, (some .int), ({ frames := 0, cells := 0, slots := 0, locals := 0 } : Room))
theorem m_min (Z : State) (a0 : Array Value) (hw : ∀ d ∈ tables_1, d.before a0 Z = true) (h0 : Heap) (ds : Mem) (p1 p2 : Int32) :
    Met B1 Z a0 h0 #[(.int p1), (.int p2)] ds (fun v ds' => ∃ z : Int32, v = some (.int z) ∧ ds = ds' ∧ (z.toInt ≤ p1.toInt ∧ z.toInt ≤ p2.toInt) ∧ (z = p1 ∨ z = p2)) := by
  refine Met.of pn1 (ls := #[.val (.int p1), .val (.int p2)]) (fun m => by first | (simp [entryFrame, mkF, argsToLocals, Value.category, B1]; done) | rfl) ?_
  refine go_iloadN 1 rfl d1_0 rfl ?_
  refine go_iloadN 2 rfl d1_1 rfl ?_
  refine go_icmp 9 5 rfl (by decide) rfl d1_2 rfl (fun (hc2_0 : p2.toInt < p1.toInt) => ?_) (fun (hc2_0 : ¬ (p2.toInt < p1.toInt)) => ?_)
  · refine go_iloadN 10 rfl d1_9 rfl ?_
    exact go_ireturn d1_10 rfl (Or.inl rfl) rfl rfl (by decide) (by decide) ⟨_, rfl, rfl, by omega, Or.inr rfl⟩
  · refine go_iloadN 6 rfl d1_5 rfl ?_
    refine go_goto 10 (by decide) rfl d1_6 ?_
    exact go_ireturn d1_10 rfl (Or.inl rfl) rfl rfl (by decide) (by decide) ⟨_, rfl, rfl, by omega, Or.inl rfl⟩
theorem d2_0 : decode jdk_29_method_65_code 0 = .ok (.iload_n 0, 1) := by decide +kernel
theorem d2_1 : decode jdk_29_method_65_code 1 = .ok (.iload_n 1, 1) := by decide +kernel
theorem d2_2 : decode jdk_29_method_65_code 2 = .ok (.if_icmp .lt 7, 3) := by decide +kernel
theorem d2_5 : decode jdk_29_method_65_code 5 = .ok (.iload_n 0, 1) := by decide +kernel
theorem d2_6 : decode jdk_29_method_65_code 6 = .ok (.goto 4, 3) := by decide +kernel
theorem d2_9 : decode jdk_29_method_65_code 9 = .ok (.iload_n 1, 1) := by decide +kernel
theorem d2_10 : decode jdk_29_method_65_code 10 = .ok (.ireturn, 1) := by decide +kernel
theorem pn2 : plainFor (⟨"java/lang/Math", "max", "(II)I"⟩ : MethodName) = true := by first | (apply plainFor_of_name; simp [plainName, overriddenIn]; done) | decide +kernel
def B2 : Bdy := (⟨"java/lang/Math", "max", "(II)I"⟩, jdk_29_method_65_code, 2, (some .int), ({ frames := 0, cells := 0, slots := 0, locals := 0 } : Room))
theorem m_max (Z : State) (a0 : Array Value) (hw : ∀ d ∈ tables_1, d.before a0 Z = true) (h0 : Heap) (ds : Mem) (p1 p2 : Int32) :
    Met B2 Z a0 h0 #[(.int p1), (.int p2)] ds (fun v ds' => ∃ z : Int32, v = some (.int z) ∧ ds = ds' ∧ (p1.toInt ≤ z.toInt ∧ p2.toInt ≤ z.toInt) ∧ (z = p1 ∨ z = p2)) := by
  refine Met.of pn2 (ls := #[.val (.int p1), .val (.int p2)]) (fun m => by first | (simp [entryFrame, mkF, argsToLocals, Value.category, B2]; done) | rfl) ?_
  refine go_iloadN 1 rfl d2_0 rfl ?_
  refine go_iloadN 2 rfl d2_1 rfl ?_
  refine go_icmp 9 5 rfl (by decide) rfl d2_2 rfl (fun (hc2_0 : p1.toInt < p2.toInt) => ?_) (fun (hc2_0 : ¬ (p1.toInt < p2.toInt)) => ?_)
  · refine go_iloadN 10 rfl d2_9 rfl ?_
    exact go_ireturn d2_10 rfl (Or.inl rfl) rfl rfl (by decide) (by decide) ⟨_, rfl, rfl, by omega, Or.inr rfl⟩
  · refine go_iloadN 6 rfl d2_5 rfl ?_
    refine go_goto 10 (by decide) rfl d2_6 ?_
    exact go_ireturn d2_10 rfl (Or.inl rfl) rfl rfl (by decide) (by decide) ⟨_, rfl, rfl, by omega, Or.inl rfl⟩
theorem d8_0 : decode prog_101_method_12_code 0 = .ok (.iload_n 2, 1) := by decide +kernel
theorem d8_1 : decode prog_101_method_12_code 1 = .ok (.bipush 64, 2) := by decide +kernel
theorem d8_3 : decode prog_101_method_12_code 3 = .ok (.if_icmp .ge 13, 3) := by decide +kernel
theorem d8_6 : decode prog_101_method_12_code 6 = .ok (.lload_n 0, 1) := by decide +kernel
theorem d8_7 : decode prog_101_method_12_code 7 = .ok (.ldc2_w 46, 3) := by decide +kernel
theorem d8_10 : decode prog_101_method_12_code 10 = .ok (.lxor, 1) := by decide +kernel
theorem d8_11 : decode prog_101_method_12_code 11 = .ok (.iload_n 2, 1) := by decide +kernel
theorem d8_12 : decode prog_101_method_12_code 12 = .ok (.lushr, 1) := by decide +kernel
theorem d8_13 : decode prog_101_method_12_code 13 = .ok (.goto 4, 3) := by decide +kernel
theorem d8_16 : decode prog_101_method_12_code 16 = .ok (.lconst 0, 1) := by decide +kernel
theorem d8_17 : decode prog_101_method_12_code 17 = .ok (.lstore_n 3, 1) := by decide +kernel
theorem d8_18 : decode prog_101_method_12_code 18 = .ok (.lload_n 3, 1) := by decide +kernel
theorem d8_19 : decode prog_101_method_12_code 19 = .ok (.lconst 0, 1) := by decide +kernel
theorem d8_20 : decode prog_101_method_12_code 20 = .ok (.lcmp, 1) := by decide +kernel
theorem d8_21 : decode prog_101_method_12_code 21 = .ok (.ifCond .ne 8, 3) := by decide +kernel
theorem d8_24 : decode prog_101_method_12_code 24 = .ok (.bipush 64, 2) := by decide +kernel
theorem d8_26 : decode prog_101_method_12_code 26 = .ok (.goto 9, 3) := by decide +kernel
theorem d8_29 : decode prog_101_method_12_code 29 = .ok (.iload_n 2, 1) := by decide +kernel
theorem d8_30 : decode prog_101_method_12_code 30 = .ok (.lload_n 3, 1) := by decide +kernel
theorem d8_31 : decode prog_101_method_12_code 31 = .ok (.invokestatic 84, 3) := by decide +kernel
theorem d8_34 : decode prog_101_method_12_code 34 = .ok (.iadd, 1) := by decide +kernel
theorem d8_35 : decode prog_101_method_12_code 35 = .ok (.ireturn, 1) := by decide +kernel
theorem pn8 : plainFor (⟨"com/example/clauseline/clauseline/service/TakenPieces", "nextFree", "(JI)I"⟩ : MethodName) = true := by first | (apply plainFor_of_name; simp [plainName, overriddenIn]; done) | decide +kernel
def Bnf : Bdy := (⟨"com/example/clauseline/clauseline/service/TakenPieces", "nextFree", "(JI)I"⟩, prog_101_method_12_code, 5, (some .int), ({ frames := 2, cells := 0, slots := 0, locals := 29 } : Room))
theorem m_nf (Z : State) (a0 : Array Value) (hw : ∀ d ∈ tables_1, d.before a0 Z = true) (h0 : Heap) (ds : Mem) (q1 : Int64) (p1 : Int32) (h1 : 0 ≤ p1.toInt) (h2 : p1.toInt ≤ 64) :
    Met Bnf Z a0 h0 #[(.long q1), (.int p1)] ds (fun v ds' => ∃ z : Int32, v = some (.int z) ∧ ds = ds' ∧ NfB q1 p1.toInt z.toInt) := by
  refine Met.of pn8 (ls := #[.val (.long q1), .second, .val (.int p1), .unset, .unset]) (fun m => by first | (simp [entryFrame, mkF, argsToLocals, Value.category, Bnf]; done) | rfl) ?_
  refine go_iloadN 1 rfl d8_0 rfl ?_
  refine go_bipush (64 : Int32) 3 rfl d8_1 rfl ?_
  refine go_icmp 16 6 rfl (by decide) rfl d8_3 rfl (fun (hc3_0 : (64 : Int) ≤ p1.toInt) => ?_) (fun (hc3_0 : ¬ ((64 : Int) ≤ p1.toInt)) => ?_)
  · refine go_lconst (0 : Int64) 17 rfl d8_16 rfl ?_
    refine go_lstoreN #[.val (.long q1), .second, .val (.int p1), .val (.long (0 : Int64)), .second] 18 rfl d8_17 rfl rfl ?_
    refine go_lloadN 19 rfl d8_18 rfl ?_
    refine go_lconst (0 : Int64) 20 rfl d8_19 rfl ?_
    refine go_lcmp 21 rfl d8_20 rfl ?_
    refine go_if 29 24 rfl (by decide) rfl d8_21 rfl (fun (hc21 : (lcmpW (0 : Int64) (0 : Int64)).toInt ≠ 0) => absurd hc21 (by decide)) (fun (hc21 : ¬ ((lcmpW (0 : Int64) (0 : Int64)).toInt ≠ 0)) => ?_)
    refine go_bipush (64 : Int32) 26 rfl d8_24 rfl ?_
    refine go_goto 35 (by decide) rfl d8_26 ?_
    exact go_ireturn d8_35 rfl (Or.inl rfl) rfl rfl (by decide) (by decide) ⟨_, rfl, rfl, nfb64 (by omega)⟩
  · refine go_lloadN 7 rfl d8_6 rfl ?_
    refine go_ldc2 (v := (-1 : Int64)) 10 rfl d8_7 (wd hw 44 rfl) ?_
    refine go_lxor 11 rfl d8_10 rfl ?_
    refine go_iloadN 12 rfl d8_11 rfl ?_
    refine go_lushr 13 rfl d8_12 rfl ?_
    refine go_goto 17 (by decide) rfl d8_13 ?_
    refine go_lstoreN #[.val (.long q1), .second, .val (.int p1), .val (.long (((q1 ^^^ (-1 : Int64)).toUInt64 >>> (p1 &&& 0x3f).toInt64.toUInt64).toInt64)), .second] 18 rfl d8_17 rfl rfl ?_
    generalize ey : (((q1 ^^^ (-1 : Int64)).toUInt64 >>> (p1 &&& 0x3f).toInt64.toUInt64).toInt64) = q2
    refine go_lloadN 19 rfl d8_18 rfl ?_
    refine go_lconst (0 : Int64) 20 rfl d8_19 rfl ?_
    refine go_lcmp 21 rfl d8_20 rfl ?_
    refine go_if 29 24 rfl (by decide) rfl d8_21 rfl (fun (hc21_1 : (lcmpW q2 (0 : Int64)).toInt ≠ 0) => ?_) (fun (hc21_1 : ¬ ((lcmpW q2 (0 : Int64)).toInt ≠ 0)) => ?_)
    · refine go_iloadN 30 rfl d8_29 rfl ?_
      refine go_lloadN 31 rfl d8_30 rfl ?_
      obtain ⟨t1, lt1, ev1, bl1, ba1⟩ := ntz_spec (lcmp_ne hc21_1)
      have et1 := ofNat_toInt lt1
      refine go_pureS 34 rfl d8_31 (wd hw 52 rfl) (wd hw 53 rfl) (tab_ntz hw) (fun l => Jvm.Free.JP.Long_numberOfTrailingZeros_J.law l q2) (by decide) (fun _ => ⟨rfl, trivial⟩) ((congrArg Value.int ev1) : (.int (Jvm.Free.JP.Long_numberOfTrailingZeros_J.val q2) : Value) = .int (Int32.ofNat t1)) (argsL := [(.long q2)]) (rest := [(.int p1)]) rfl (ps := [.long]) (by decide +kernel) rfl rfl 1 rfl (by decide) (by decide) (by decide) (by decide) ?_
      refine go_iadd 35 rfl d8_34 rfl ?_
      exact go_ireturn d8_35 rfl (Or.inl rfl) rfl rfl (by decide) (by decide) ⟨_, rfl, rfl, by rw [addE rfl et1 (by omega)]; exact nfb1 h1 (by omega) ey bl1 ba1⟩
    · refine go_bipush (64 : Int32) 26 rfl d8_24 rfl ?_
      refine go_goto 35 (by decide) rfl d8_26 ?_
      exact go_ireturn d8_35 rfl (Or.inl rfl) rfl rfl (by decide) (by decide) ⟨_, rfl, rfl, nfb0 h1 (by omega) ey (lcmp_eq hc21_1)⟩
theorem d11_0 : decode prog_101_method_13_code 0 = .ok (.iload_n 2, 1) := by decide +kernel
theorem d11_1 : decode prog_101_method_13_code 1 = .ok (.iconst 1, 1) := by decide +kernel
theorem d11_2 : decode prog_101_method_13_code 2 = .ok (.iadd, 1) := by decide +kernel
theorem d11_3 : decode prog_101_method_13_code 3 = .ok (.bipush 64, 2) := by decide +kernel
theorem d11_5 : decode prog_101_method_13_code 5 = .ok (.if_icmp .ge 11, 3) := by decide +kernel
theorem d11_8 : decode prog_101_method_13_code 8 = .ok (.lload_n 0, 1) := by decide +kernel
theorem d11_9 : decode prog_101_method_13_code 9 = .ok (.iload_n 2, 1) := by decide +kernel
theorem d11_10 : decode prog_101_method_13_code 10 = .ok (.iconst 1, 1) := by decide +kernel
theorem d11_11 : decode prog_101_method_13_code 11 = .ok (.iadd, 1) := by decide +kernel
theorem d11_12 : decode prog_101_method_13_code 12 = .ok (.lushr, 1) := by decide +kernel
theorem d11_13 : decode prog_101_method_13_code 13 = .ok (.goto 4, 3) := by decide +kernel
theorem d11_16 : decode prog_101_method_13_code 16 = .ok (.lconst 0, 1) := by decide +kernel
theorem d11_17 : decode prog_101_method_13_code 17 = .ok (.lstore_n 3, 1) := by decide +kernel
theorem d11_18 : decode prog_101_method_13_code 18 = .ok (.lload_n 3, 1) := by decide +kernel
theorem d11_19 : decode prog_101_method_13_code 19 = .ok (.lconst 0, 1) := by decide +kernel
theorem d11_20 : decode prog_101_method_13_code 20 = .ok (.lcmp, 1) := by decide +kernel
theorem d11_21 : decode prog_101_method_13_code 21 = .ok (.ifCond .ne 8, 3) := by decide +kernel
theorem d11_24 : decode prog_101_method_13_code 24 = .ok (.bipush 64, 2) := by decide +kernel
theorem d11_26 : decode prog_101_method_13_code 26 = .ok (.goto 11, 3) := by decide +kernel
theorem d11_29 : decode prog_101_method_13_code 29 = .ok (.iload_n 2, 1) := by decide +kernel
theorem d11_30 : decode prog_101_method_13_code 30 = .ok (.iconst 1, 1) := by decide +kernel
theorem d11_31 : decode prog_101_method_13_code 31 = .ok (.iadd, 1) := by decide +kernel
theorem d11_32 : decode prog_101_method_13_code 32 = .ok (.lload_n 3, 1) := by decide +kernel
theorem d11_33 : decode prog_101_method_13_code 33 = .ok (.invokestatic 84, 3) := by decide +kernel
theorem d11_36 : decode prog_101_method_13_code 36 = .ok (.iadd, 1) := by decide +kernel
theorem d11_37 : decode prog_101_method_13_code 37 = .ok (.ireturn, 1) := by decide +kernel
theorem pn11 : plainFor (⟨"com/example/clauseline/clauseline/service/TakenPieces", "runEnd", "(JI)I"⟩ : MethodName) = true := by first | (apply plainFor_of_name; simp [plainName, overriddenIn]; done) | decide +kernel
def Bre : Bdy := (⟨"com/example/clauseline/clauseline/service/TakenPieces", "runEnd", "(JI)I"⟩, prog_101_method_13_code, 5, (some .int), ({ frames := 2, cells := 0, slots := 0, locals := 29 } : Room))
theorem m_re (Z : State) (a0 : Array Value) (hw : ∀ d ∈ tables_1, d.before a0 Z = true) (h0 : Heap) (ds : Mem) (q1 : Int64) (p1 : Int32) (h1 : 0 ≤ p1.toInt) (h2 : p1.toInt < 64) :
    Met Bre Z a0 h0 #[(.long q1), (.int p1)] ds (fun v ds' => ∃ z : Int32, v = some (.int z) ∧ ds = ds' ∧ ReB q1 p1.toInt z.toInt) := by
  refine Met.of pn11 (ls := #[.val (.long q1), .second, .val (.int p1), .unset, .unset]) (fun m => by first | (simp [entryFrame, mkF, argsToLocals, Value.category, Bre]; done) | rfl) ?_
  show Go Bre Z a0 h0 _ 0 0 ds 0 #[.val (.long q1), .second, .val (.int p1), .unset, .unset] []
  have fp : (p1 + (1 : Int32)).toInt = p1.toInt + 1 := addE rfl rfl (by omega)
  refine go_iloadN 1 rfl d11_0 rfl ?_
  refine go_iconst (1 : Int32) 2 rfl d11_1 rfl ?_
  refine go_iadd 3 rfl d11_2 rfl ?_
  refine go_bipush (64 : Int32) 5 rfl d11_3 rfl ?_
  refine go_icmp 16 8 rfl (by decide) rfl d11_5 rfl (fun (hc5_2 : (64 : Int) ≤ (p1 + (1 : Int32)).toInt) => ?_) (fun (hc5_2 : ¬ ((64 : Int) ≤ (p1 + (1 : Int32)).toInt)) => ?_)
  · refine go_lconst (0 : Int64) 17 rfl d11_16 rfl ?_
    refine go_lstoreN #[.val (.long q1), .second, .val (.int p1), .val (.long (0 : Int64)), .second] 18 rfl d11_17 rfl rfl ?_
    refine go_lloadN 19 rfl d11_18 rfl ?_
    refine go_lconst (0 : Int64) 20 rfl d11_19 rfl ?_
    refine go_lcmp 21 rfl d11_20 rfl ?_
    refine go_if 29 24 rfl (by decide) rfl d11_21 rfl (fun (hc21 : (lcmpW (0 : Int64) (0 : Int64)).toInt ≠ 0) => absurd hc21 (by decide)) (fun (hc21 : ¬ ((lcmpW (0 : Int64) (0 : Int64)).toInt ≠ 0)) => ?_)
    refine go_bipush (64 : Int32) 26 rfl d11_24 rfl ?_
    refine go_goto 37 (by decide) rfl d11_26 ?_
    exact go_ireturn d11_37 rfl (Or.inl rfl) rfl rfl (by decide) (by decide) ⟨_, rfl, rfl, reb64 (by omega)⟩
  · refine go_lloadN 9 rfl d11_8 rfl ?_
    refine go_iloadN 10 rfl d11_9 rfl ?_
    refine go_iconst (1 : Int32) 11 rfl d11_10 rfl ?_
    refine go_iadd 12 rfl d11_11 rfl ?_
    refine go_lushr 13 rfl d11_12 rfl ?_
    refine go_goto 17 (by decide) rfl d11_13 ?_
    refine go_lstoreN #[.val (.long q1), .second, .val (.int p1), .val (.long ((q1.toUInt64 >>> ((p1 + (1 : Int32)) &&& 0x3f).toInt64.toUInt64).toInt64)), .second] 18 rfl d11_17 rfl rfl ?_
    generalize ey : ((q1.toUInt64 >>> ((p1 + (1 : Int32)) &&& 0x3f).toInt64.toUInt64).toInt64) = q2
    refine go_lloadN 19 rfl d11_18 rfl ?_
    refine go_lconst (0 : Int64) 20 rfl d11_19 rfl ?_
    refine go_lcmp 21 rfl d11_20 rfl ?_
    refine go_if 29 24 rfl (by decide) rfl d11_21 rfl (fun (hc21_3 : (lcmpW q2 (0 : Int64)).toInt ≠ 0) => ?_) (fun (hc21_3 : ¬ ((lcmpW q2 (0 : Int64)).toInt ≠ 0)) => ?_)
    · refine go_iloadN 30 rfl d11_29 rfl ?_
      refine go_iconst (1 : Int32) 31 rfl d11_30 rfl ?_
      refine go_iadd 32 rfl d11_31 rfl ?_
      refine go_lloadN 33 rfl d11_32 rfl ?_
      obtain ⟨t1, lt1, ev1, bl1, ba1⟩ := ntz_spec (lcmp_ne hc21_3)
      have et1 := ofNat_toInt lt1
      refine go_pureS 36 rfl d11_33 (wd hw 52 rfl) (wd hw 53 rfl) (tab_ntz hw) (fun l => Jvm.Free.JP.Long_numberOfTrailingZeros_J.law l q2) (by decide) (fun _ => ⟨rfl, trivial⟩) ((congrArg Value.int ev1) : (.int (Jvm.Free.JP.Long_numberOfTrailingZeros_J.val q2) : Value) = .int (Int32.ofNat t1)) (argsL := [(.long q2)]) (rest := [(.int (p1 + (1 : Int32)))]) rfl (ps := [.long]) (by decide +kernel) rfl rfl 1 rfl (by decide) (by decide) (by decide) (by decide) ?_
      refine go_iadd 37 rfl d11_36 rfl ?_
      exact go_ireturn d11_37 rfl (Or.inl rfl) rfl rfl (by decide) (by decide) ⟨_, rfl, rfl, by rw [addE rfl et1 (by omega)]; exact reb1 (by omega) (by omega) fp ey bl1 ba1⟩
    · refine go_bipush (64 : Int32) 26 rfl d11_24 rfl ?_
      refine go_goto 37 (by decide) rfl d11_26 ?_
      exact go_ireturn d11_37 rfl (Or.inl rfl) rfl rfl (by decide) (by decide) ⟨_, rfl, rfl, reb0 (by omega) (by omega) fp ey (lcmp_eq hc21_3)⟩
theorem d20_0 : decode prog_101_method_10_code 0 = .ok (.iload_n 1, 1) := by decide +kernel
theorem d20_1 : decode prog_101_method_10_code 1 = .ok (.invokestatic 81, 3) := by decide +kernel
theorem d20_4 : decode prog_101_method_10_code 4 = .ok (.aload_n 0, 1) := by decide +kernel
theorem d20_5 : decode prog_101_method_10_code 5 = .ok (.getfield 21, 3) := by decide +kernel
theorem d20_8 : decode prog_101_method_10_code 8 = .ok (.invokestatic 81, 3) := by decide +kernel
theorem d20_11 : decode prog_101_method_10_code 11 = .ok (.isub, 1) := by decide +kernel
theorem d20_12 : decode prog_101_method_10_code 12 = .ok (.ireturn, 1) := by decide +kernel
theorem pn20 : plainFor (⟨"com/example/clauseline/clauseline/service/TakenPieces", "levelsBelow", "(I)I"⟩ : MethodName) = true := by first | (apply plainFor_of_name; simp [plainName, overriddenIn]; done) | decide +kernel
def Blb : Bdy := (⟨"com/example/clauseline/clauseline/service/TakenPieces", "levelsBelow", "(I)I"⟩, prog_101_method_10_code, 2, (some .int), ({ frames := 1, cells := 0, slots := 0, locals := 14 } : Room))
theorem m_lb (Z : State) (a0 : Array Value) (hw : ∀ d ∈ tables_1, d.before a0 Z = true) (h0 : Heap) (a1 a2 a3 a4 a5 a6 a7 : Addr) (v91 v92 v93 v94 v95 v96 : List Value) (p1 p2 p3 : Int32) (hv : Jvm.Free.JP.Integer_numberOfLeadingZeros_I.val p1 - Jvm.Free.JP.Integer_numberOfLeadingZeros_I.val p2 = p3) :
    Met Blb Z a0 h0 #[(.ref a1), (.int p1)] (M7 a1 a2 a3 a4 a5 a6 a7 p2 v91 v92 v93 v94 v95 v96) (Ret (some (.int p3)) (M7 a1 a2 a3 a4 a5 a6 a7 p2 v91 v92 v93 v94 v95 v96)) := by
  refine Met.of pn20 (ls := #[.val (.ref a1), .val (.int p1)]) (fun m => by first | (simp [entryFrame, mkF, argsToLocals, Value.category, Blb]; done) | rfl) ?_
  refine go_iloadN 1 rfl d20_0 rfl ?_
  refine go_pureS 4 rfl d20_1 (wd hw 100 rfl) (wd hw 24 rfl) (tab_nlz hw) (fun l => Jvm.Free.JP.Integer_numberOfLeadingZeros_I.law l p1) (by decide) (fun _ => ⟨rfl, trivial⟩) (rfl : (.int (Jvm.Free.JP.Integer_numberOfLeadingZeros_I.val p1) : Value) = .int (Jvm.Free.JP.Integer_numberOfLeadingZeros_I.val p1)) (argsL := [(.int p1)]) (rest := []) rfl (ps := [.int]) (by decide +kernel) rfl rfl 0 rfl (by decide) (by decide) (by decide) (by decide) ?_
  refine go_aloadN 5 rfl d20_4 rfl rfl ?_
  refine go_get 0 0 8 rfl d20_5 rfl rfl rfl (wd hw 27 rfl) ?_
  refine go_pureS 11 rfl d20_8 (wd hw 100 rfl) (wd hw 24 rfl) (tab_nlz hw) (fun l => Jvm.Free.JP.Integer_numberOfLeadingZeros_I.law l p2) (by decide) (fun _ => ⟨rfl, trivial⟩) (rfl : (.int (Jvm.Free.JP.Integer_numberOfLeadingZeros_I.val p2) : Value) = .int (Jvm.Free.JP.Integer_numberOfLeadingZeros_I.val p2)) (argsL := [(.int p2)]) (rest := [(.int (Jvm.Free.JP.Integer_numberOfLeadingZeros_I.val p1))]) rfl (ps := [.int]) (by decide +kernel) rfl rfl 1 rfl (by decide) (by decide) (by decide) (by decide) ?_
  refine go_isub 12 rfl d20_11 rfl ?_
  exact go_ireturn d20_12 rfl (Or.inl rfl) rfl rfl (by decide) (by decide) ⟨by rw [hv], rfl⟩
theorem d7_0 : decode prog_101_method_8_code 0 = .ok (.aload_n 0, 1) := by decide +kernel
theorem d7_1 : decode prog_101_method_8_code 1 = .ok (.getfield 25, 3) := by decide +kernel
theorem d7_4 : decode prog_101_method_8_code 4 = .ok (.iload_n 1, 1) := by decide +kernel
theorem d7_5 : decode prog_101_method_8_code 5 = .ok (.laload, 1) := by decide +kernel
theorem d7_6 : decode prog_101_method_8_code 6 = .ok (.lstore_n 2, 1) := by decide +kernel
theorem d7_7 : decode prog_101_method_8_code 7 = .ok (.lload_n 2, 1) := by decide +kernel
theorem d7_8 : decode prog_101_method_8_code 8 = .ok (.aload_n 0, 1) := by decide +kernel
theorem d7_9 : decode prog_101_method_8_code 9 = .ok (.getfield 29, 3) := by decide +kernel
theorem d7_12 : decode prog_101_method_8_code 12 = .ok (.iload_n 1, 1) := by decide +kernel
theorem d7_13 : decode prog_101_method_8_code 13 = .ok (.laload, 1) := by decide +kernel
theorem d7_14 : decode prog_101_method_8_code 14 = .ok (.lor, 1) := by decide +kernel
theorem d7_15 : decode prog_101_method_8_code 15 = .ok (.lstore 4, 2) := by decide +kernel
theorem d7_17 : decode prog_101_method_8_code 17 = .ok (.iconst 0, 1) := by decide +kernel
theorem d7_18 : decode prog_101_method_8_code 18 = .ok (.istore 6, 2) := by decide +kernel
theorem d7_20 : decode prog_101_method_8_code 20 = .ok (.iconst 0, 1) := by decide +kernel
theorem d7_21 : decode prog_101_method_8_code 21 = .ok (.istore 7, 2) := by decide +kernel
theorem d7_23 : decode prog_101_method_8_code 23 = .ok (.iconst 0, 1) := by decide +kernel
theorem d7_24 : decode prog_101_method_8_code 24 = .ok (.istore 8, 2) := by decide +kernel
theorem d7_26 : decode prog_101_method_8_code 26 = .ok (.lload_n 2, 1) := by decide +kernel
theorem d7_27 : decode prog_101_method_8_code 27 = .ok (.iconst 0, 1) := by decide +kernel
theorem d7_28 : decode prog_101_method_8_code 28 = .ok (.invokestatic 74, 3) := by decide +kernel
theorem d7_31 : decode prog_101_method_8_code 31 = .ok (.istore 9, 2) := by decide +kernel
theorem d7_33 : decode prog_101_method_8_code 33 = .ok (.iload 9, 2) := by decide +kernel
theorem d7_35 : decode prog_101_method_8_code 35 = .ok (.bipush 64, 2) := by decide +kernel
theorem d7_37 : decode prog_101_method_8_code 37 = .ok (.if_icmp .ge 58, 3) := by decide +kernel
theorem d7_40 : decode prog_101_method_8_code 40 = .ok (.lload 4, 2) := by decide +kernel
theorem d7_42 : decode prog_101_method_8_code 42 = .ok (.iload 9, 2) := by decide +kernel
theorem d7_44 : decode prog_101_method_8_code 44 = .ok (.invokestatic 78, 3) := by decide +kernel
theorem d7_47 : decode prog_101_method_8_code 47 = .ok (.istore 10, 2) := by decide +kernel
theorem d7_49 : decode prog_101_method_8_code 49 = .ok (.iload 9, 2) := by decide +kernel
theorem d7_51 : decode prog_101_method_8_code 51 = .ok (.ifCond .ne 7, 3) := by decide +kernel
theorem d7_54 : decode prog_101_method_8_code 54 = .ok (.iload 10, 2) := by decide +kernel
theorem d7_56 : decode prog_101_method_8_code 56 = .ok (.istore 6, 2) := by decide +kernel
theorem d7_58 : decode prog_101_method_8_code 58 = .ok (.iload 10, 2) := by decide +kernel
theorem d7_60 : decode prog_101_method_8_code 60 = .ok (.bipush 64, 2) := by decide +kernel
theorem d7_62 : decode prog_101_method_8_code 62 = .ok (.if_icmp .ne 10, 3) := by decide +kernel
theorem d7_65 : decode prog_101_method_8_code 65 = .ok (.bipush 64, 2) := by decide +kernel
theorem d7_67 : decode prog_101_method_8_code 67 = .ok (.iload 9, 2) := by decide +kernel
theorem d7_69 : decode prog_101_method_8_code 69 = .ok (.isub, 1) := by decide +kernel
theorem d7_70 : decode prog_101_method_8_code 70 = .ok (.istore 7, 2) := by decide +kernel
theorem d7_72 : decode prog_101_method_8_code 72 = .ok (.iload 8, 2) := by decide +kernel
theorem d7_74 : decode prog_101_method_8_code 74 = .ok (.iload 10, 2) := by decide +kernel
theorem d7_76 : decode prog_101_method_8_code 76 = .ok (.iload 9, 2) := by decide +kernel
theorem d7_78 : decode prog_101_method_8_code 78 = .ok (.isub, 1) := by decide +kernel
theorem d7_79 : decode prog_101_method_8_code 79 = .ok (.invokestatic 9, 3) := by decide +kernel
theorem d7_82 : decode prog_101_method_8_code 82 = .ok (.istore 8, 2) := by decide +kernel
theorem d7_84 : decode prog_101_method_8_code 84 = .ok (.lload_n 2, 1) := by decide +kernel
theorem d7_85 : decode prog_101_method_8_code 85 = .ok (.iload 10, 2) := by decide +kernel
theorem d7_87 : decode prog_101_method_8_code 87 = .ok (.invokestatic 74, 3) := by decide +kernel
theorem d7_90 : decode prog_101_method_8_code 90 = .ok (.istore 9, 2) := by decide +kernel
theorem d7_92 : decode prog_101_method_8_code 92 = .ok (.goto (-59), 3) := by decide +kernel
theorem d7_95 : decode prog_101_method_8_code 95 = .ok (.aload_n 0, 1) := by decide +kernel
theorem d7_96 : decode prog_101_method_8_code 96 = .ok (.getfield 32, 3) := by decide +kernel
theorem d7_99 : decode prog_101_method_8_code 99 = .ok (.aload_n 0, 1) := by decide +kernel
theorem d7_100 : decode prog_101_method_8_code 100 = .ok (.getfield 21, 3) := by decide +kernel
theorem d7_103 : decode prog_101_method_8_code 103 = .ok (.iload_n 1, 1) := by decide +kernel
theorem d7_104 : decode prog_101_method_8_code 104 = .ok (.iadd, 1) := by decide +kernel
theorem d7_105 : decode prog_101_method_8_code 105 = .ok (.iload 6, 2) := by decide +kernel
theorem d7_107 : decode prog_101_method_8_code 107 = .ok (.iastore, 1) := by decide +kernel
theorem d7_108 : decode prog_101_method_8_code 108 = .ok (.aload_n 0, 1) := by decide +kernel
theorem d7_109 : decode prog_101_method_8_code 109 = .ok (.getfield 36, 3) := by decide +kernel
theorem d7_112 : decode prog_101_method_8_code 112 = .ok (.aload_n 0, 1) := by decide +kernel
theorem d7_113 : decode prog_101_method_8_code 113 = .ok (.getfield 21, 3) := by decide +kernel
theorem d7_116 : decode prog_101_method_8_code 116 = .ok (.iload_n 1, 1) := by decide +kernel
theorem d7_117 : decode prog_101_method_8_code 117 = .ok (.iadd, 1) := by decide +kernel
theorem d7_118 : decode prog_101_method_8_code 118 = .ok (.iload 7, 2) := by decide +kernel
theorem d7_120 : decode prog_101_method_8_code 120 = .ok (.iastore, 1) := by decide +kernel
theorem d7_121 : decode prog_101_method_8_code 121 = .ok (.aload_n 0, 1) := by decide +kernel
theorem d7_122 : decode prog_101_method_8_code 122 = .ok (.getfield 39, 3) := by decide +kernel
theorem d7_125 : decode prog_101_method_8_code 125 = .ok (.aload_n 0, 1) := by decide +kernel
theorem d7_126 : decode prog_101_method_8_code 126 = .ok (.getfield 21, 3) := by decide +kernel
theorem d7_129 : decode prog_101_method_8_code 129 = .ok (.iload_n 1, 1) := by decide +kernel
theorem d7_130 : decode prog_101_method_8_code 130 = .ok (.iadd, 1) := by decide +kernel
theorem d7_131 : decode prog_101_method_8_code 131 = .ok (.iload 8, 2) := by decide +kernel
theorem d7_133 : decode prog_101_method_8_code 133 = .ok (.iastore, 1) := by decide +kernel
theorem d7_134 : decode prog_101_method_8_code 134 = .ok (.return_, 1) := by decide +kernel
theorem pn7 : plainFor (⟨"com/example/clauseline/clauseline/service/TakenPieces", "summarize", "(I)V"⟩ : MethodName) = true := by first | (apply plainFor_of_name; simp [plainName, overriddenIn]; done) | decide +kernel
def Bsum : Bdy := (⟨"com/example/clauseline/clauseline/service/TakenPieces", "summarize", "(I)V"⟩, prog_101_method_8_code, 11, none, ({ frames := 3, cells := 0, slots := 0, locals := 45 } : Room))
theorem sum_exit (Z : State) (a0 : Array Value) (hw : ∀ d ∈ tables_1, d.before a0 Z = true) (h0 : Heap) (P : Fr1) (a1 a2 a3 a4 a5 a6 a7 : Addr) (v91 v92 v93 v94 v95 v96 : List Value) (p1 p2 p3 : Int32) (q1 : Int64) (w lo hi : Int) (hq : v91[p1.toNatClampNeg]? = some (.long q1)) (hs : v92[p1.toNatClampNeg]? = some (.long (0 : Int64))) (hp : ¬ p1 < 0) (hF : Fre P w q1) (hw1 : p1.toInt = w) (hlo : lo = 64 * w) (hhi : hi = 64 * w + 64) (hix : p2 + p1 = p3) (h3 : ¬ p3 < 0) (hf : p3.toNatClampNeg < v93.length) (hl : p3.toNatClampNeg < v94.length) (hm : p3.toNatClampNeg < v95.length) (p4 p5 p6 p7 : Int32) (s10 : Slot) (h10 : s10 = .unset ∨ ∃ w, s10 = .val w ∧ w.category = 1) (hS : Sm P lo hi p5.toInt p6.toInt p7.toInt) :
    Go Bsum Z a0 h0 (fun v ds => ∃ z1 z2 z3 : Int32, Sm P lo hi z1.toInt z2.toInt z3.toInt ∧ Ret none (M7 a1 a2 a3 a4 a5 a6 a7 p2 v91 v92 (v93.set p3.toNatClampNeg (.int z1)) (v94.set p3.toNatClampNeg (.int z2)) (v95.set p3.toNatClampNeg (.int z3)) v96) v ds) 0 0 (M7 a1 a2 a3 a4 a5 a6 a7 p2 v91 v92 v93 v94 v95 v96) 95 #[.val (.ref a1), .val (.int p1), .val (.long q1), .second, .val (.long q1), .second, .val (.int p5), .val (.int p6), .val (.int p7), .val (.int p4), s10] [] := by
  refine go_aloadN 96 rfl d7_95 rfl rfl ?_
  refine go_get 0 3 99 rfl d7_96 rfl rfl rfl (wd hw 35 rfl) ?_
  refine go_aloadN 100 rfl d7_99 rfl rfl ?_
  refine go_get 0 0 103 rfl d7_100 rfl rfl rfl (wd hw 27 rfl) ?_
  refine go_iloadN 104 rfl d7_103 rfl ?_
  refine go_iadd 105 rfl d7_104 rfl ?_
  rw [hix]
  refine go_iload 107 rfl d7_105 rfl ?_
  refine go_iastore 3 108 rfl d7_107 rfl rfl h3 hf ?_
  refine go_aloadN 109 rfl d7_108 rfl rfl ?_
  refine go_get 0 4 112 rfl d7_109 rfl rfl rfl (wd hw 37 rfl) ?_
  refine go_aloadN 113 rfl d7_112 rfl rfl ?_
  refine go_get 0 0 116 rfl d7_113 rfl rfl rfl (wd hw 27 rfl) ?_
  refine go_iloadN 117 rfl d7_116 rfl ?_
  refine go_iadd 118 rfl d7_117 rfl ?_
  rw [hix]
  refine go_iload 120 rfl d7_118 rfl ?_
  refine go_iastore 4 121 rfl d7_120 rfl rfl h3 hl ?_
  refine go_aloadN 122 rfl d7_121 rfl rfl ?_
  refine go_get 0 5 125 rfl d7_122 rfl rfl rfl (wd hw 39 rfl) ?_
  refine go_aloadN 126 rfl d7_125 rfl rfl ?_
  refine go_get 0 0 129 rfl d7_126 rfl rfl rfl (wd hw 27 rfl) ?_
  refine go_iloadN 130 rfl d7_129 rfl ?_
  refine go_iadd 131 rfl d7_130 rfl ?_
  rw [hix]
  refine go_iload 133 rfl d7_131 rfl ?_
  refine go_iastore 5 134 rfl d7_133 rfl rfl h3 hm ?_
  show Go Bsum Z a0 h0 _ 0 0 (M7 a1 a2 a3 a4 a5 a6 a7 p2 v91 v92 (v93.set p3.toNatClampNeg (.int p5)) (v94.set p3.toNatClampNeg (.int p6)) (v95.set p3.toNatClampNeg (.int p7)) v96) 134 #[.val (.ref a1), .val (.int p1), .val (.long q1), .second, .val (.long q1), .second, .val (.int p5), .val (.int p6), .val (.int p7), .val (.int p4), s10] []
  exact go_return d7_134 rfl rfl (by decide) (by decide) ⟨_, _, _, hS, rfl, rfl⟩
theorem sum_loop (Z : State) (a0 : Array Value) (hw : ∀ d ∈ tables_1, d.before a0 Z = true) (h0 : Heap) (P : Fr1) (a1 a2 a3 a4 a5 a6 a7 : Addr) (v91 v92 v93 v94 v95 v96 : List Value) (p1 p2 p3 : Int32) (q1 : Int64) (w lo hi : Int) (hq : v91[p1.toNatClampNeg]? = some (.long q1)) (hs : v92[p1.toNatClampNeg]? = some (.long (0 : Int64))) (hp : ¬ p1 < 0) (hF : Fre P w q1) (hw1 : p1.toInt = w) (hlo : lo = 64 * w) (hhi : hi = 64 * w + 64) (hix : p2 + p1 = p3) (h3 : ¬ p3 < 0) (hf : p3.toNatClampNeg < v93.length) (hl : p3.toNatClampNeg < v94.length) (hm : p3.toNatClampNeg < v95.length) : ∀ (n : Nat) (p4 p5 p6 p7 : Int32) (s10 : Slot) (h10 : s10 = .unset ∨ ∃ w, s10 = .val w ∧ w.category = 1), 64 - p4.toInt ≤ n → SI P w p4.toInt p5.toInt p6.toInt p7.toInt →
    Go Bsum Z a0 h0 (fun v ds => ∃ z1 z2 z3 : Int32, Sm P lo hi z1.toInt z2.toInt z3.toInt ∧ Ret none (M7 a1 a2 a3 a4 a5 a6 a7 p2 v91 v92 (v93.set p3.toNatClampNeg (.int z1)) (v94.set p3.toNatClampNeg (.int z2)) (v95.set p3.toNatClampNeg (.int z3)) v96) v ds) 0 0 (M7 a1 a2 a3 a4 a5 a6 a7 p2 v91 v92 v93 v94 v95 v96) 33 #[.val (.ref a1), .val (.int p1), .val (.long q1), .second, .val (.long q1), .second, .val (.int p5), .val (.int p6), .val (.int p7), .val (.int p4), s10] [] := by
  intro n
  induction n with
  | zero =>
    intro p4 p5 p6 p7 s10 h10 hn hI
    have g0 := hI.a0; have g1 := hI.a1
    refine go_iload 35 rfl d7_33 rfl ?_
    refine go_bipush (64 : Int32) 37 rfl d7_35 rfl ?_
    refine go_icmp 95 40 rfl (by decide) rfl d7_37 rfl (fun (hc37 : (64 : Int) ≤ p4.toInt) => ?_) (fun (hc37 : ¬ ((64 : Int) ≤ p4.toInt)) => absurd hc37 (by omega))
    exact sum_exit Z a0 hw h0 P a1 a2 a3 a4 a5 a6 a7 v91 v92 v93 v94 v95 v96 p1 p2 p3 q1 w lo hi hq hs hp hF hw1 hlo hhi hix h3 hf hl hm p4 p5 p6 p7 s10 h10 (by rw [hlo, hhi]; exact hI.fin (by omega))
  | succ n ih =>
    intro p4 p5 p6 p7 s10 h10 hn hI
    have g0 := hI.a0; have g1 := hI.a1
    refine go_iload 35 rfl d7_33 rfl ?_
    refine go_bipush (64 : Int32) 37 rfl d7_35 rfl ?_
    refine go_icmp 95 40 rfl (by decide) rfl d7_37 rfl (fun (hc37_4 : (64 : Int) ≤ p4.toInt) => ?_) (fun (hc37_4 : ¬ ((64 : Int) ≤ p4.toInt)) => ?_)
    · exact sum_exit Z a0 hw h0 P a1 a2 a3 a4 a5 a6 a7 v91 v92 v93 v94 v95 v96 p1 p2 p3 q1 w lo hi hq hs hp hF hw1 hlo hhi hix h3 hf hl hm p4 p5 p6 p7 s10 h10 (by rw [hlo, hhi]; exact hI.fin (by omega))
    · refine go_lload 42 rfl d7_40 rfl ?_
      refine go_iload 44 rfl d7_42 rfl ?_
      refine go_callS 47 rfl d7_44 (wd hw 59 rfl) (wd hw 60 rfl) (wd hw 10 rfl) (wd hw 61 rfl) (by decide) (m_re Z a0 hw h0 (M7 a1 a2 a3 a4 a5 a6 a7 p2 v91 v92 v93 v94 v95 v96) q1 p4 (by omega) (by omega)) (argsL := [(.long q1), (.int p4)]) (rest := []) rfl (ps := [.long, .int]) (by decide +kernel) rfl rfl 0 rfl (by decide) (by decide) (by decide) (by decide) ?_
      rintro _ _ ⟨z501, rfl, rfl, hz501⟩
      show Go Bsum Z a0 h0 _ 0 0 (M7 a1 a2 a3 a4 a5 a6 a7 p2 v91 v92 v93 v94 v95 v96) 47 #[.val (.ref a1), .val (.int p1), .val (.long q1), .second, .val (.long q1), .second, .val (.int p5), .val (.int p6), .val (.int p7), .val (.int p4), s10] [(.int z501)]
      have rz501 := re_of hF (by omega) (hI.a2 (by omega)) hz501
      have bz501 := rz501.1; have cz501 := rz501.2.1
      refine go_istore #[.val (.ref a1), .val (.int p1), .val (.long q1), .second, .val (.long q1), .second, .val (.int p5), .val (.int p6), .val (.int p7), .val (.int p4), .val (.int z501)] 49 rfl d7_47 rfl (XS.store1 rfl h10 rfl) ?_
      refine go_iload 51 rfl d7_49 rfl ?_
      refine go_if 58 54 rfl (by decide) rfl d7_51 rfl (fun (hc51_5 : p4.toInt ≠ 0) => ?_) (fun (hc51_5 : ¬ (p4.toInt ≠ 0)) => ?_)
      · refine go_iload 60 rfl d7_58 rfl ?_
        refine go_bipush (64 : Int32) 62 rfl d7_60 rfl ?_
        refine go_icmp 72 65 rfl (by decide) rfl d7_62 rfl (fun (hc62_6 : z501.toInt ≠ (64 : Int)) => ?_) (fun (hc62_6 : ¬ (z501.toInt ≠ (64 : Int))) => ?_)
        · refine go_iload 74 rfl d7_72 rfl ?_
          refine go_iload 76 rfl d7_74 rfl ?_
          refine go_iload 78 rfl d7_76 rfl ?_
          refine go_isub 79 rfl d7_78 rfl ?_
          have fa2 : (z501 - p4).toInt = z501.toInt - p4.toInt := subE rfl rfl (by omega)
          refine go_callS 82 rfl d7_79 (wd hw 17 rfl) (wd hw 6 rfl) (wd hw 3 rfl) (wd hw 7 rfl) (by decide) (m_max Z a0 hw h0 (mem1 a1 p2 a2 a3 a4 a5 a6 a7 v91 v92 v93 v94 v95 v96) p7 (z501 - p4)) (argsL := [(.int p7), (.int (z501 - p4))]) (rest := []) rfl (ps := [.int, .int]) (by decide +kernel) rfl rfl 0 rfl (by decide) (by decide) (by decide) (by decide) ?_
          rintro _ _ ⟨z9008, rfl, rfl, hz9008, gz9008⟩
          show Go Bsum Z a0 h0 _ 0 0 (M7 a1 a2 a3 a4 a5 a6 a7 p2 v91 v92 v93 v94 v95 v96) 82 #[.val (.ref a1), .val (.int p1), .val (.long q1), .second, .val (.long q1), .second, .val (.int p5), .val (.int p6), .val (.int p7), .val (.int p4), .val (.int z501)] [(.int z9008)]
          have kz9008 : z9008.toInt = p7.toInt ∨ z9008.toInt = (z501 - p4).toInt := by rcases gz9008 with h | h <;> rw [h] <;> simp
          refine go_istore #[.val (.ref a1), .val (.int p1), .val (.long q1), .second, .val (.long q1), .second, .val (.int p5), .val (.int p6), .val (.int z9008), .val (.int p4), .val (.int z501)] 84 rfl d7_82 rfl rfl ?_
          refine go_lloadN 85 rfl d7_84 rfl ?_
          refine go_iload 87 rfl d7_85 rfl ?_
          refine go_callS 90 rfl d7_87 (wd hw 49 rfl) (wd hw 50 rfl) (wd hw 10 rfl) (wd hw 51 rfl) (by decide) (m_nf Z a0 hw h0 (M7 a1 a2 a3 a4 a5 a6 a7 p2 v91 v92 v93 v94 v95 v96) q1 z501 (by first | omega | decide) (by first | omega | decide)) (argsL := [(.long q1), (.int z501)]) (rest := []) rfl (ps := [.long, .int]) (by decide +kernel) rfl rfl 0 rfl (by decide) (by decide) (by decide) (by decide) ?_
          rintro _ _ ⟨z503, rfl, rfl, hz503⟩
          show Go Bsum Z a0 h0 _ 0 0 (M7 a1 a2 a3 a4 a5 a6 a7 p2 v91 v92 v93 v94 v95 v96) 90 #[.val (.ref a1), .val (.int p1), .val (.long q1), .second, .val (.long q1), .second, .val (.int p5), .val (.int p6), .val (.int z9008), .val (.int p4), .val (.int z501)] [(.int z503)]
          have nz503 := nf_of hF (by first | omega | decide) hz503
          have bz503 := nz503.1; have cz503 := nz503.2.1
          refine go_istore #[.val (.ref a1), .val (.int p1), .val (.long q1), .second, .val (.long q1), .second, .val (.int p5), .val (.int p6), .val (.int z9008), .val (.int z503), .val (.int z501)] 92 rfl d7_90 rfl rfl ?_
          refine go_goto 33 (by decide) rfl d7_92 ?_
          exact ih _ _ _ _ _ (Or.inr ⟨_, rfl, rfl⟩) (by omega) (hI.step (by omega) rz501 nz503 (by omega) (by omega) (by omega) (by omega) (by omega))
        · refine go_bipush (64 : Int32) 67 rfl d7_65 rfl ?_
          refine go_iload 69 rfl d7_67 rfl ?_
          refine go_isub 70 rfl d7_69 rfl ?_
          have fa4 : ((64 : Int32) - p4).toInt = (64 : Int) - p4.toInt := subE rfl rfl (by omega)
          refine go_istore #[.val (.ref a1), .val (.int p1), .val (.long q1), .second, .val (.long q1), .second, .val (.int p5), .val (.int ((64 : Int32) - p4)), .val (.int p7), .val (.int p4), .val (.int z501)] 72 rfl d7_70 rfl rfl ?_
          refine go_iload 74 rfl d7_72 rfl ?_
          refine go_iload 76 rfl d7_74 rfl ?_
          refine go_iload 78 rfl d7_76 rfl ?_
          refine go_isub 79 rfl d7_78 rfl ?_
          have fa5 : (z501 - p4).toInt = z501.toInt - p4.toInt := subE rfl rfl (by omega)
          refine go_callS 82 rfl d7_79 (wd hw 17 rfl) (wd hw 6 rfl) (wd hw 3 rfl) (wd hw 7 rfl) (by decide) (m_max Z a0 hw h0 (mem1 a1 p2 a2 a3 a4 a5 a6 a7 v91 v92 v93 v94 v95 v96) p7 (z501 - p4)) (argsL := [(.int p7), (.int (z501 - p4))]) (rest := []) rfl (ps := [.int, .int]) (by decide +kernel) rfl rfl 0 rfl (by decide) (by decide) (by decide) (by decide) ?_
          rintro _ _ ⟨z9009, rfl, rfl, hz9009, gz9009⟩
          show Go Bsum Z a0 h0 _ 0 0 (M7 a1 a2 a3 a4 a5 a6 a7 p2 v91 v92 v93 v94 v95 v96) 82 #[.val (.ref a1), .val (.int p1), .val (.long q1), .second, .val (.long q1), .second, .val (.int p5), .val (.int ((64 : Int32) - p4)), .val (.int p7), .val (.int p4), .val (.int z501)] [(.int z9009)]
          have kz9009 : z9009.toInt = p7.toInt ∨ z9009.toInt = (z501 - p4).toInt := by rcases gz9009 with h | h <;> rw [h] <;> simp
          refine go_istore #[.val (.ref a1), .val (.int p1), .val (.long q1), .second, .val (.long q1), .second, .val (.int p5), .val (.int ((64 : Int32) - p4)), .val (.int z9009), .val (.int p4), .val (.int z501)] 84 rfl d7_82 rfl rfl ?_
          refine go_lloadN 85 rfl d7_84 rfl ?_
          refine go_iload 87 rfl d7_85 rfl ?_
          refine go_callS 90 rfl d7_87 (wd hw 49 rfl) (wd hw 50 rfl) (wd hw 10 rfl) (wd hw 51 rfl) (by decide) (m_nf Z a0 hw h0 (M7 a1 a2 a3 a4 a5 a6 a7 p2 v91 v92 v93 v94 v95 v96) q1 z501 (by first | omega | decide) (by first | omega | decide)) (argsL := [(.long q1), (.int z501)]) (rest := []) rfl (ps := [.long, .int]) (by decide +kernel) rfl rfl 0 rfl (by decide) (by decide) (by decide) (by decide) ?_
          rintro _ _ ⟨z506, rfl, rfl, hz506⟩
          show Go Bsum Z a0 h0 _ 0 0 (M7 a1 a2 a3 a4 a5 a6 a7 p2 v91 v92 v93 v94 v95 v96) 90 #[.val (.ref a1), .val (.int p1), .val (.long q1), .second, .val (.long q1), .second, .val (.int p5), .val (.int ((64 : Int32) - p4)), .val (.int z9009), .val (.int p4), .val (.int z501)] [(.int z506)]
          have nz506 := nf_of hF (by first | omega | decide) hz506
          have bz506 := nz506.1; have cz506 := nz506.2.1
          refine go_istore #[.val (.ref a1), .val (.int p1), .val (.long q1), .second, .val (.long q1), .second, .val (.int p5), .val (.int ((64 : Int32) - p4)), .val (.int z9009), .val (.int z506), .val (.int z501)] 92 rfl d7_90 rfl rfl ?_
          refine go_goto 33 (by decide) rfl d7_92 ?_
          exact ih _ _ _ _ _ (Or.inr ⟨_, rfl, rfl⟩) (by omega) (hI.step (by omega) rz501 nz506 (by omega) (by omega) (by omega) (by omega) (by omega))
      · refine go_iload 56 rfl d7_54 rfl ?_
        refine go_istore #[.val (.ref a1), .val (.int p1), .val (.long q1), .second, .val (.long q1), .second, .val (.int z501), .val (.int p6), .val (.int p7), .val (.int p4), .val (.int z501)] 58 rfl d7_56 rfl rfl ?_
        refine go_iload 60 rfl d7_58 rfl ?_
        refine go_bipush (64 : Int32) 62 rfl d7_60 rfl ?_
        refine go_icmp 72 65 rfl (by decide) rfl d7_62 rfl (fun (hc62_9 : z501.toInt ≠ (64 : Int)) => ?_) (fun (hc62_9 : ¬ (z501.toInt ≠ (64 : Int))) => ?_)
        · refine go_iload 74 rfl d7_72 rfl ?_
          refine go_iload 76 rfl d7_74 rfl ?_
          refine go_iload 78 rfl d7_76 rfl ?_
          refine go_isub 79 rfl d7_78 rfl ?_
          have fa7 : (z501 - p4).toInt = z501.toInt - p4.toInt := subE rfl rfl (by omega)
          refine go_callS 82 rfl d7_79 (wd hw 17 rfl) (wd hw 6 rfl) (wd hw 3 rfl) (wd hw 7 rfl) (by decide) (m_max Z a0 hw h0 (mem1 a1 p2 a2 a3 a4 a5 a6 a7 v91 v92 v93 v94 v95 v96) p7 (z501 - p4)) (argsL := [(.int p7), (.int (z501 - p4))]) (rest := []) rfl (ps := [.int, .int]) (by decide +kernel) rfl rfl 0 rfl (by decide) (by decide) (by decide) (by decide) ?_
          rintro _ _ ⟨z9011, rfl, rfl, hz9011, gz9011⟩
          show Go Bsum Z a0 h0 _ 0 0 (M7 a1 a2 a3 a4 a5 a6 a7 p2 v91 v92 v93 v94 v95 v96) 82 #[.val (.ref a1), .val (.int p1), .val (.long q1), .second, .val (.long q1), .second, .val (.int z501), .val (.int p6), .val (.int p7), .val (.int p4), .val (.int z501)] [(.int z9011)]
          have kz9011 : z9011.toInt = p7.toInt ∨ z9011.toInt = (z501 - p4).toInt := by rcases gz9011 with h | h <;> rw [h] <;> simp
          refine go_istore #[.val (.ref a1), .val (.int p1), .val (.long q1), .second, .val (.long q1), .second, .val (.int z501), .val (.int p6), .val (.int z9011), .val (.int p4), .val (.int z501)] 84 rfl d7_82 rfl rfl ?_
          refine go_lloadN 85 rfl d7_84 rfl ?_
          refine go_iload 87 rfl d7_85 rfl ?_
          refine go_callS 90 rfl d7_87 (wd hw 49 rfl) (wd hw 50 rfl) (wd hw 10 rfl) (wd hw 51 rfl) (by decide) (m_nf Z a0 hw h0 (M7 a1 a2 a3 a4 a5 a6 a7 p2 v91 v92 v93 v94 v95 v96) q1 z501 (by first | omega | decide) (by first | omega | decide)) (argsL := [(.long q1), (.int z501)]) (rest := []) rfl (ps := [.long, .int]) (by decide +kernel) rfl rfl 0 rfl (by decide) (by decide) (by decide) (by decide) ?_
          rintro _ _ ⟨z508, rfl, rfl, hz508⟩
          show Go Bsum Z a0 h0 _ 0 0 (M7 a1 a2 a3 a4 a5 a6 a7 p2 v91 v92 v93 v94 v95 v96) 90 #[.val (.ref a1), .val (.int p1), .val (.long q1), .second, .val (.long q1), .second, .val (.int z501), .val (.int p6), .val (.int z9011), .val (.int p4), .val (.int z501)] [(.int z508)]
          have nz508 := nf_of hF (by first | omega | decide) hz508
          have bz508 := nz508.1; have cz508 := nz508.2.1
          refine go_istore #[.val (.ref a1), .val (.int p1), .val (.long q1), .second, .val (.long q1), .second, .val (.int z501), .val (.int p6), .val (.int z9011), .val (.int z508), .val (.int z501)] 92 rfl d7_90 rfl rfl ?_
          refine go_goto 33 (by decide) rfl d7_92 ?_
          exact ih _ _ _ _ _ (Or.inr ⟨_, rfl, rfl⟩) (by omega) (hI.step (by omega) rz501 nz508 (by omega) (by omega) (by omega) (by omega) (by omega))
        · refine go_bipush (64 : Int32) 67 rfl d7_65 rfl ?_
          refine go_iload 69 rfl d7_67 rfl ?_
          refine go_isub 70 rfl d7_69 rfl ?_
          have fa9 : ((64 : Int32) - p4).toInt = (64 : Int) - p4.toInt := subE rfl rfl (by omega)
          refine go_istore #[.val (.ref a1), .val (.int p1), .val (.long q1), .second, .val (.long q1), .second, .val (.int z501), .val (.int ((64 : Int32) - p4)), .val (.int p7), .val (.int p4), .val (.int z501)] 72 rfl d7_70 rfl rfl ?_
          refine go_iload 74 rfl d7_72 rfl ?_
          refine go_iload 76 rfl d7_74 rfl ?_
          refine go_iload 78 rfl d7_76 rfl ?_
          refine go_isub 79 rfl d7_78 rfl ?_
          have fa10 : (z501 - p4).toInt = z501.toInt - p4.toInt := subE rfl rfl (by omega)
          refine go_callS 82 rfl d7_79 (wd hw 17 rfl) (wd hw 6 rfl) (wd hw 3 rfl) (wd hw 7 rfl) (by decide) (m_max Z a0 hw h0 (mem1 a1 p2 a2 a3 a4 a5 a6 a7 v91 v92 v93 v94 v95 v96) p7 (z501 - p4)) (argsL := [(.int p7), (.int (z501 - p4))]) (rest := []) rfl (ps := [.int, .int]) (by decide +kernel) rfl rfl 0 rfl (by decide) (by decide) (by decide) (by decide) ?_
          rintro _ _ ⟨z9012, rfl, rfl, hz9012, gz9012⟩
          show Go Bsum Z a0 h0 _ 0 0 (M7 a1 a2 a3 a4 a5 a6 a7 p2 v91 v92 v93 v94 v95 v96) 82 #[.val (.ref a1), .val (.int p1), .val (.long q1), .second, .val (.long q1), .second, .val (.int z501), .val (.int ((64 : Int32) - p4)), .val (.int p7), .val (.int p4), .val (.int z501)] [(.int z9012)]
          have kz9012 : z9012.toInt = p7.toInt ∨ z9012.toInt = (z501 - p4).toInt := by rcases gz9012 with h | h <;> rw [h] <;> simp
          refine go_istore #[.val (.ref a1), .val (.int p1), .val (.long q1), .second, .val (.long q1), .second, .val (.int z501), .val (.int ((64 : Int32) - p4)), .val (.int z9012), .val (.int p4), .val (.int z501)] 84 rfl d7_82 rfl rfl ?_
          refine go_lloadN 85 rfl d7_84 rfl ?_
          refine go_iload 87 rfl d7_85 rfl ?_
          refine go_callS 90 rfl d7_87 (wd hw 49 rfl) (wd hw 50 rfl) (wd hw 10 rfl) (wd hw 51 rfl) (by decide) (m_nf Z a0 hw h0 (M7 a1 a2 a3 a4 a5 a6 a7 p2 v91 v92 v93 v94 v95 v96) q1 z501 (by first | omega | decide) (by first | omega | decide)) (argsL := [(.long q1), (.int z501)]) (rest := []) rfl (ps := [.long, .int]) (by decide +kernel) rfl rfl 0 rfl (by decide) (by decide) (by decide) (by decide) ?_
          rintro _ _ ⟨z511, rfl, rfl, hz511⟩
          show Go Bsum Z a0 h0 _ 0 0 (M7 a1 a2 a3 a4 a5 a6 a7 p2 v91 v92 v93 v94 v95 v96) 90 #[.val (.ref a1), .val (.int p1), .val (.long q1), .second, .val (.long q1), .second, .val (.int z501), .val (.int ((64 : Int32) - p4)), .val (.int z9012), .val (.int p4), .val (.int z501)] [(.int z511)]
          have nz511 := nf_of hF (by first | omega | decide) hz511
          have bz511 := nz511.1; have cz511 := nz511.2.1
          refine go_istore #[.val (.ref a1), .val (.int p1), .val (.long q1), .second, .val (.long q1), .second, .val (.int z501), .val (.int ((64 : Int32) - p4)), .val (.int z9012), .val (.int z511), .val (.int z501)] 92 rfl d7_90 rfl rfl ?_
          refine go_goto 33 (by decide) rfl d7_92 ?_
          exact ih _ _ _ _ _ (Or.inr ⟨_, rfl, rfl⟩) (by omega) (hI.step (by omega) rz501 nz511 (by omega) (by omega) (by omega) (by omega) (by omega))
theorem m_sum (Z : State) (a0 : Array Value) (hw : ∀ d ∈ tables_1, d.before a0 Z = true) (h0 : Heap) (P : Fr1) (a1 a2 a3 a4 a5 a6 a7 : Addr) (v91 v92 v93 v94 v95 v96 : List Value) (p1 p2 p3 : Int32) (q1 : Int64) (w lo hi : Int) (hq : v91[p1.toNatClampNeg]? = some (.long q1)) (hs : v92[p1.toNatClampNeg]? = some (.long (0 : Int64))) (hp : ¬ p1 < 0) (hF : Fre P w q1) (hw1 : p1.toInt = w) (hlo : lo = 64 * w) (hhi : hi = 64 * w + 64) (hix : p2 + p1 = p3) (h3 : ¬ p3 < 0) (hf : p3.toNatClampNeg < v93.length) (hl : p3.toNatClampNeg < v94.length) (hm : p3.toNatClampNeg < v95.length) :
    Met Bsum Z a0 h0 #[(.ref a1), (.int p1)] (M7 a1 a2 a3 a4 a5 a6 a7 p2 v91 v92 v93 v94 v95 v96) (fun v ds => ∃ z1 z2 z3 : Int32, Sm P lo hi z1.toInt z2.toInt z3.toInt ∧ Ret none (M7 a1 a2 a3 a4 a5 a6 a7 p2 v91 v92 (v93.set p3.toNatClampNeg (.int z1)) (v94.set p3.toNatClampNeg (.int z2)) (v95.set p3.toNatClampNeg (.int z3)) v96) v ds) := by
  refine Met.of pn7 (ls := #[.val (.ref a1), .val (.int p1), .unset, .unset, .unset, .unset, .unset, .unset, .unset, .unset, .unset]) (fun m => by first | (simp [entryFrame, mkF, argsToLocals, Value.category, Bsum]; done) | rfl) ?_
  refine go_aloadN 1 rfl d7_0 rfl rfl ?_
  refine go_get 0 1 4 rfl d7_1 rfl rfl rfl (wd hw 30 rfl) ?_
  refine go_iloadN 5 rfl d7_4 rfl ?_
  refine go_laload 6 rfl d7_5 rfl (v := (.long q1)) (Mo.el (i := 1) rfl hp hq) ?_
  refine go_lstoreN #[.val (.ref a1), .val (.int p1), .val (.long q1), .second, .unset, .unset, .unset, .unset, .unset, .unset, .unset] 7 rfl d7_6 rfl rfl ?_
  refine go_lloadN 8 rfl d7_7 rfl ?_
  refine go_aloadN 9 rfl d7_8 rfl rfl ?_
  refine go_get 0 2 12 rfl d7_9 rfl rfl rfl (wd hw 32 rfl) ?_
  refine go_iloadN 13 rfl d7_12 rfl ?_
  refine go_laload 14 rfl d7_13 rfl (v := (.long (0 : Int64))) (Mo.el (i := 2) rfl hp hs) ?_
  refine go_lor 15 rfl d7_14 rfl ?_
  rw [or0]
  refine go_lstore #[.val (.ref a1), .val (.int p1), .val (.long q1), .second, .val (.long q1), .second, .unset, .unset, .unset, .unset, .unset] 17 rfl d7_15 rfl rfl ?_
  refine go_iconst (0 : Int32) 18 rfl d7_17 rfl ?_
  refine go_istore #[.val (.ref a1), .val (.int p1), .val (.long q1), .second, .val (.long q1), .second, .val (.int (0 : Int32)), .unset, .unset, .unset, .unset] 20 rfl d7_18 rfl rfl ?_
  refine go_iconst (0 : Int32) 21 rfl d7_20 rfl ?_
  refine go_istore #[.val (.ref a1), .val (.int p1), .val (.long q1), .second, .val (.long q1), .second, .val (.int (0 : Int32)), .val (.int (0 : Int32)), .unset, .unset, .unset] 23 rfl d7_21 rfl rfl ?_
  refine go_iconst (0 : Int32) 24 rfl d7_23 rfl ?_
  refine go_istore #[.val (.ref a1), .val (.int p1), .val (.long q1), .second, .val (.long q1), .second, .val (.int (0 : Int32)), .val (.int (0 : Int32)), .val (.int (0 : Int32)), .unset, .unset] 26 rfl d7_24 rfl rfl ?_
  refine go_lloadN 27 rfl d7_26 rfl ?_
  refine go_iconst (0 : Int32) 28 rfl d7_27 rfl ?_
  refine go_callS 31 rfl d7_28 (wd hw 49 rfl) (wd hw 50 rfl) (wd hw 10 rfl) (wd hw 51 rfl) (by decide) (m_nf Z a0 hw h0 (M7 a1 a2 a3 a4 a5 a6 a7 p2 v91 v92 v93 v94 v95 v96) q1 (0 : Int32) (by first | omega | decide) (by first | omega | decide)) (argsL := [(.long q1), (.int (0 : Int32))]) (rest := []) rfl (ps := [.long, .int]) (by decide +kernel) rfl rfl 0 rfl (by decide) (by decide) (by decide) (by decide) ?_
  rintro _ _ ⟨z512, rfl, rfl, hz512⟩
  show Go Bsum Z a0 h0 _ 0 0 (M7 a1 a2 a3 a4 a5 a6 a7 p2 v91 v92 v93 v94 v95 v96) 31 #[.val (.ref a1), .val (.int p1), .val (.long q1), .second, .val (.long q1), .second, .val (.int (0 : Int32)), .val (.int (0 : Int32)), .val (.int (0 : Int32)), .unset, .unset] [(.int z512)]
  have e0_ : (0 : Int32).toInt = 0 := rfl
  have nz512 := nf_of hF (by first | omega | decide) hz512
  have bz512 := nz512.1; have cz512 := nz512.2.1
  refine go_istore #[.val (.ref a1), .val (.int p1), .val (.long q1), .second, .val (.long q1), .second, .val (.int (0 : Int32)), .val (.int (0 : Int32)), .val (.int (0 : Int32)), .val (.int z512), .unset] 33 rfl d7_31 rfl rfl ?_
  exact sum_loop Z a0 hw h0 P a1 a2 a3 a4 a5 a6 a7 v91 v92 v93 v94 v95 v96 p1 p2 p3 q1 w lo hi hq hs hp hF hw1 hlo hhi hix h3 hf hl hm 64 _ _ _ _ .unset (Or.inl rfl) (by omega) (SI.start nz512)
theorem d15_0 : decode prog_101_method_7_code 0 = .ok (.aload_n 0, 1) := by decide +kernel
theorem d15_1 : decode prog_101_method_7_code 1 = .ok (.getfield 25, 3) := by decide +kernel
theorem d15_4 : decode prog_101_method_7_code 4 = .ok (.iload_n 1, 1) := by decide +kernel
theorem d15_5 : decode prog_101_method_7_code 5 = .ok (.laload, 1) := by decide +kernel
theorem d15_6 : decode prog_101_method_7_code 6 = .ok (.lstore 4, 2) := by decide +kernel
theorem d15_8 : decode prog_101_method_7_code 8 = .ok (.lload 4, 2) := by decide +kernel
theorem d15_10 : decode prog_101_method_7_code 10 = .ok (.aload_n 0, 1) := by decide +kernel
theorem d15_11 : decode prog_101_method_7_code 11 = .ok (.getfield 29, 3) := by decide +kernel
theorem d15_14 : decode prog_101_method_7_code 14 = .ok (.iload_n 1, 1) := by decide +kernel
theorem d15_15 : decode prog_101_method_7_code 15 = .ok (.laload, 1) := by decide +kernel
theorem d15_16 : decode prog_101_method_7_code 16 = .ok (.lor, 1) := by decide +kernel
theorem d15_17 : decode prog_101_method_7_code 17 = .ok (.lstore 6, 2) := by decide +kernel
theorem d15_19 : decode prog_101_method_7_code 19 = .ok (.lload 4, 2) := by decide +kernel
theorem d15_21 : decode prog_101_method_7_code 21 = .ok (.iload_n 2, 1) := by decide +kernel
theorem d15_22 : decode prog_101_method_7_code 22 = .ok (.invokestatic 74, 3) := by decide +kernel
theorem d15_25 : decode prog_101_method_7_code 25 = .ok (.istore 8, 2) := by decide +kernel
theorem d15_27 : decode prog_101_method_7_code 27 = .ok (.iconst (-1), 1) := by decide +kernel
theorem d15_28 : decode prog_101_method_7_code 28 = .ok (.istore 9, 2) := by decide +kernel
theorem d15_30 : decode prog_101_method_7_code 30 = .ok (.iload 9, 2) := by decide +kernel
theorem d15_32 : decode prog_101_method_7_code 32 = .ok (.ifCond .ge 49, 3) := by decide +kernel
theorem d15_35 : decode prog_101_method_7_code 35 = .ok (.iload 8, 2) := by decide +kernel
theorem d15_37 : decode prog_101_method_7_code 37 = .ok (.bipush 64, 2) := by decide +kernel
theorem d15_39 : decode prog_101_method_7_code 39 = .ok (.if_icmp .ge 42, 3) := by decide +kernel
theorem d15_42 : decode prog_101_method_7_code 42 = .ok (.lload 6, 2) := by decide +kernel
theorem d15_44 : decode prog_101_method_7_code 44 = .ok (.iload 8, 2) := by decide +kernel
theorem d15_46 : decode prog_101_method_7_code 46 = .ok (.invokestatic 78, 3) := by decide +kernel
theorem d15_49 : decode prog_101_method_7_code 49 = .ok (.istore 10, 2) := by decide +kernel
theorem d15_51 : decode prog_101_method_7_code 51 = .ok (.iload 10, 2) := by decide +kernel
theorem d15_53 : decode prog_101_method_7_code 53 = .ok (.iload 8, 2) := by decide +kernel
theorem d15_55 : decode prog_101_method_7_code 55 = .ok (.isub, 1) := by decide +kernel
theorem d15_56 : decode prog_101_method_7_code 56 = .ok (.iload_n 3, 1) := by decide +kernel
theorem d15_57 : decode prog_101_method_7_code 57 = .ok (.if_icmp .lt 12, 3) := by decide +kernel
theorem d15_60 : decode prog_101_method_7_code 60 = .ok (.iload_n 1, 1) := by decide +kernel
theorem d15_61 : decode prog_101_method_7_code 61 = .ok (.bipush 64, 2) := by decide +kernel
theorem d15_63 : decode prog_101_method_7_code 63 = .ok (.imul, 1) := by decide +kernel
theorem d15_64 : decode prog_101_method_7_code 64 = .ok (.iload 8, 2) := by decide +kernel
theorem d15_66 : decode prog_101_method_7_code 66 = .ok (.iadd, 1) := by decide +kernel
theorem d15_67 : decode prog_101_method_7_code 67 = .ok (.istore 9, 2) := by decide +kernel
theorem d15_69 : decode prog_101_method_7_code 69 = .ok (.lload 4, 2) := by decide +kernel
theorem d15_71 : decode prog_101_method_7_code 71 = .ok (.iload 10, 2) := by decide +kernel
theorem d15_73 : decode prog_101_method_7_code 73 = .ok (.invokestatic 74, 3) := by decide +kernel
theorem d15_76 : decode prog_101_method_7_code 76 = .ok (.istore 8, 2) := by decide +kernel
theorem d15_78 : decode prog_101_method_7_code 78 = .ok (.goto (-48), 3) := by decide +kernel
theorem d15_81 : decode prog_101_method_7_code 81 = .ok (.iload 9, 2) := by decide +kernel
theorem d15_83 : decode prog_101_method_7_code 83 = .ok (.ireturn, 1) := by decide +kernel
theorem pn15 : plainFor (⟨"com/example/clauseline/clauseline/service/TakenPieces", "scan", "(III)I"⟩ : MethodName) = true := by first | (apply plainFor_of_name; simp [plainName, overriddenIn]; done) | decide +kernel
def Bscan : Bdy := (⟨"com/example/clauseline/clauseline/service/TakenPieces", "scan", "(III)I"⟩, prog_101_method_7_code, 11, (some .int), ({ frames := 3, cells := 0, slots := 0, locals := 45 } : Room))
theorem scan_loop (Z : State) (a0 : Array Value) (hw : ∀ d ∈ tables_1, d.before a0 Z = true) (h0 : Heap) (P : Fr1) (a1 a2 a3 a4 a5 a6 a7 : Addr) (v91 v92 v93 v94 v95 v96 : List Value) (p1 p2 p4 p5 : Int32) (q1 : Int64) (w hi F : Int) (hq : v91[p1.toNatClampNeg]? = some (.long q1)) (hs : v92[p1.toNatClampNeg]? = some (.long (0 : Int64))) (hp : ¬ p1 < 0) (hF : Fre P w q1) (hw1 : p1.toInt = w) (hw0 : 0 ≤ w ∧ w ≤ 3) (h4 : 0 ≤ p4.toInt ∧ p4.toInt < 64) (h5 : 0 < p5.toInt ∧ p5.toInt ≤ 256) (hhi : hi = 64 * w + 64) (hFd : F = 64 * w + p4.toInt) : ∀ (n : Nat) (p6 : Int32) (s10 : Slot) (h10 : s10 = .unset ∨ ∃ w, s10 = .val w ∧ w.category = 1), 64 - p6.toInt ≤ n → CI P w p4.toInt p5.toInt p6.toInt →
    Go Bscan Z a0 h0 (fun v ds => ∃ z : Int32, v = some (.int z) ∧ (M7 a1 a2 a3 a4 a5 a6 a7 p2 v91 v92 v93 v94 v95 v96) = ds ∧ Sc P hi F p5.toInt z.toInt) 0 0 (M7 a1 a2 a3 a4 a5 a6 a7 p2 v91 v92 v93 v94 v95 v96) 30 #[.val (.ref a1), .val (.int p1), .val (.int p4), .val (.int p5), .val (.long q1), .second, .val (.long q1), .second, .val (.int p6), .val (.int (-1 : Int32)), s10] [] := by
  intro n
  induction n with
  | zero =>
    intro p6 s10 h10 hn hI
    have g0 := hI.a0; have g1 := hI.a1
    refine go_iload 32 rfl d15_30 rfl ?_
    refine go_if 81 35 rfl (by decide) rfl d15_32 rfl (fun (hc32 : 0 ≤ (-1 : Int)) => absurd hc32 (by decide)) (fun (hc32 : ¬ (0 ≤ (-1 : Int))) => ?_)
    refine go_iload 37 rfl d15_35 rfl ?_
    refine go_bipush (64 : Int32) 39 rfl d15_37 rfl ?_
    refine go_icmp 81 42 rfl (by decide) rfl d15_39 rfl (fun (hc39 : (64 : Int) ≤ p6.toInt) => ?_) (fun (hc39 : ¬ ((64 : Int) ≤ p6.toInt)) => absurd hc39 (by omega))
    refine go_iload 83 rfl d15_81 rfl ?_
    exact go_ireturn d15_83 rfl (Or.inl rfl) rfl rfl (by decide) (by decide) ⟨_, rfl, rfl, by rw [hhi, hFd]; exact hI.fin h5.1 (by omega)⟩
  | succ n ih =>
    intro p6 s10 h10 hn hI
    have g0 := hI.a0; have g1 := hI.a1
    refine go_iload 32 rfl d15_30 rfl ?_
    refine go_if 81 35 rfl (by decide) rfl d15_32 rfl (fun (hc32 : 0 ≤ (-1 : Int)) => absurd hc32 (by decide)) (fun (hc32 : ¬ (0 ≤ (-1 : Int))) => ?_)
    refine go_iload 37 rfl d15_35 rfl ?_
    refine go_bipush (64 : Int32) 39 rfl d15_37 rfl ?_
    refine go_icmp 81 42 rfl (by decide) rfl d15_39 rfl (fun (hc39_12 : (64 : Int) ≤ p6.toInt) => ?_) (fun (hc39_12 : ¬ ((64 : Int) ≤ p6.toInt)) => ?_)
    · refine go_iload 83 rfl d15_81 rfl ?_
      exact go_ireturn d15_83 rfl (Or.inl rfl) rfl rfl (by decide) (by decide) ⟨_, rfl, rfl, by rw [hhi, hFd]; exact hI.fin h5.1 (by omega)⟩
    · refine go_lload 44 rfl d15_42 rfl ?_
      refine go_iload 46 rfl d15_44 rfl ?_
      refine go_callS 49 rfl d15_46 (wd hw 59 rfl) (wd hw 60 rfl) (wd hw 10 rfl) (wd hw 61 rfl) (by decide) (m_re Z a0 hw h0 (M7 a1 a2 a3 a4 a5 a6 a7 p2 v91 v92 v93 v94 v95 v96) q1 p6 (by omega) (by omega)) (argsL := [(.long q1), (.int p6)]) (rest := []) rfl (ps := [.long, .int]) (by decide +kernel) rfl rfl 0 rfl (by decide) (by decide) (by decide) (by decide) ?_
      rintro _ _ ⟨z501, rfl, rfl, hz501⟩
      show Go Bscan Z a0 h0 _ 0 0 (M7 a1 a2 a3 a4 a5 a6 a7 p2 v91 v92 v93 v94 v95 v96) 49 #[.val (.ref a1), .val (.int p1), .val (.int p4), .val (.int p5), .val (.long q1), .second, .val (.long q1), .second, .val (.int p6), .val (.int (-1 : Int32)), s10] [(.int z501)]
      have rz501 := re_of hF (by omega) (hI.a2 (by omega)) hz501
      have bz501 := rz501.1; have cz501 := rz501.2.1
      refine go_istore #[.val (.ref a1), .val (.int p1), .val (.int p4), .val (.int p5), .val (.long q1), .second, .val (.long q1), .second, .val (.int p6), .val (.int (-1 : Int32)), .val (.int z501)] 51 rfl d15_49 rfl (XS.store1 rfl h10 rfl) ?_
      refine go_iload 53 rfl d15_51 rfl ?_
      refine go_iload 55 rfl d15_53 rfl ?_
      refine go_isub 56 rfl d15_55 rfl ?_
      have fa2 : (z501 - p6).toInt = z501.toInt - p6.toInt := subE rfl rfl (by omega)
      refine go_iloadN 57 rfl d15_56 rfl ?_
      refine go_icmp 69 60 rfl (by decide) rfl d15_57 rfl (fun (hc57_13 : (z501 - p6).toInt < p5.toInt) => ?_) (fun (hc57_13 : ¬ ((z501 - p6).toInt < p5.toInt)) => ?_)
      · refine go_lload 71 rfl d15_69 rfl ?_
        refine go_iload 73 rfl d15_71 rfl ?_
        refine go_callS 76 rfl d15_73 (wd hw 49 rfl) (wd hw 50 rfl) (wd hw 10 rfl) (wd hw 51 rfl) (by decide) (m_nf Z a0 hw h0 (M7 a1 a2 a3 a4 a5 a6 a7 p2 v91 v92 v93 v94 v95 v96) q1 z501 (by first | omega | decide) (by first | omega | decide)) (argsL := [(.long q1), (.int z501)]) (rest := []) rfl (ps := [.long, .int]) (by decide +kernel) rfl rfl 0 rfl (by decide) (by decide) (by decide) (by decide) ?_
        rintro _ _ ⟨z503, rfl, rfl, hz503⟩
        show Go Bscan Z a0 h0 _ 0 0 (M7 a1 a2 a3 a4 a5 a6 a7 p2 v91 v92 v93 v94 v95 v96) 76 #[.val (.ref a1), .val (.int p1), .val (.int p4), .val (.int p5), .val (.long q1), .second, .val (.long q1), .second, .val (.int p6), .val (.int (-1 : Int32)), .val (.int z501)] [(.int z503)]
        have nz503 := nf_of hF (by first | omega | decide) hz503
        have bz503 := nz503.1; have cz503 := nz503.2.1
        refine go_istore #[.val (.ref a1), .val (.int p1), .val (.int p4), .val (.int p5), .val (.long q1), .second, .val (.long q1), .second, .val (.int z503), .val (.int (-1 : Int32)), .val (.int z501)] 78 rfl d15_76 rfl rfl ?_
        refine go_goto 30 (by decide) rfl d15_78 ?_
        exact ih _ _ (Or.inr ⟨_, rfl, rfl⟩) (by omega) (hI.step h5.1 (by omega) rz501 nz503 (by omega))
      · refine go_iloadN 61 rfl d15_60 rfl ?_
        refine go_bipush (64 : Int32) 63 rfl d15_61 rfl ?_
        refine go_imul 64 rfl d15_63 rfl ?_
        have fa4 : (p1 * (64 : Int32)).toInt = p1.toInt * (64 : Int) := mulE rfl rfl (by omega)
        refine go_iload 66 rfl d15_64 rfl ?_
        refine go_iadd 67 rfl d15_66 rfl ?_
        have fa5 : ((p1 * (64 : Int32)) + p6).toInt = (p1 * (64 : Int32)).toInt + p6.toInt := addE rfl rfl (by omega)
        refine go_istore #[.val (.ref a1), .val (.int p1), .val (.int p4), .val (.int p5), .val (.long q1), .second, .val (.long q1), .second, .val (.int p6), .val (.int ((p1 * (64 : Int32)) + p6)), .val (.int z501)] 69 rfl d15_67 rfl rfl ?_
        refine go_lload 71 rfl d15_69 rfl ?_
        refine go_iload 73 rfl d15_71 rfl ?_
        refine go_callS 76 rfl d15_73 (wd hw 49 rfl) (wd hw 50 rfl) (wd hw 10 rfl) (wd hw 51 rfl) (by decide) (m_nf Z a0 hw h0 (M7 a1 a2 a3 a4 a5 a6 a7 p2 v91 v92 v93 v94 v95 v96) q1 z501 (by first | omega | decide) (by first | omega | decide)) (argsL := [(.long q1), (.int z501)]) (rest := []) rfl (ps := [.long, .int]) (by decide +kernel) rfl rfl 0 rfl (by decide) (by decide) (by decide) (by decide) ?_
        rintro _ _ ⟨z506, rfl, rfl, hz506⟩
        show Go Bscan Z a0 h0 _ 0 0 (M7 a1 a2 a3 a4 a5 a6 a7 p2 v91 v92 v93 v94 v95 v96) 76 #[.val (.ref a1), .val (.int p1), .val (.int p4), .val (.int p5), .val (.long q1), .second, .val (.long q1), .second, .val (.int p6), .val (.int ((p1 * (64 : Int32)) + p6)), .val (.int z501)] [(.int z506)]
        have nz506 := nf_of hF (by first | omega | decide) hz506
        have bz506 := nz506.1; have cz506 := nz506.2.1
        refine go_istore #[.val (.ref a1), .val (.int p1), .val (.int p4), .val (.int p5), .val (.long q1), .second, .val (.long q1), .second, .val (.int z506), .val (.int ((p1 * (64 : Int32)) + p6)), .val (.int z501)] 78 rfl d15_76 rfl rfl ?_
        refine go_goto 30 (by decide) rfl d15_78 ?_
        refine go_iload 32 rfl d15_30 rfl ?_
        refine go_if 81 35 rfl (by decide) rfl d15_32 rfl (fun (hc32 : 0 ≤ ((p1 * (64 : Int32)) + p6).toInt) => ?_) (fun (hc32 : ¬ (0 ≤ ((p1 * (64 : Int32)) + p6).toInt)) => absurd hc32 (by omega))
        refine go_iload 83 rfl d15_81 rfl ?_
        exact go_ireturn d15_83 rfl (Or.inl rfl) rfl rfl (by decide) (by decide) ⟨_, rfl, rfl, by rw [show ((p1 * (64 : Int32)) + p6).toInt = 64 * w + p6.toInt from by omega, hhi, hFd]; exact hI.found h5.1 (by omega) rz501 (by omega)⟩
theorem m_scan (Z : State) (a0 : Array Value) (hw : ∀ d ∈ tables_1, d.before a0 Z = true) (h0 : Heap) (P : Fr1) (a1 a2 a3 a4 a5 a6 a7 : Addr) (v91 v92 v93 v94 v95 v96 : List Value) (p1 p2 p4 p5 : Int32) (q1 : Int64) (w hi F : Int) (hq : v91[p1.toNatClampNeg]? = some (.long q1)) (hs : v92[p1.toNatClampNeg]? = some (.long (0 : Int64))) (hp : ¬ p1 < 0) (hF : Fre P w q1) (hw1 : p1.toInt = w) (hw0 : 0 ≤ w ∧ w ≤ 3) (h4 : 0 ≤ p4.toInt ∧ p4.toInt < 64) (h5 : 0 < p5.toInt ∧ p5.toInt ≤ 256) (hhi : hi = 64 * w + 64) (hFd : F = 64 * w + p4.toInt) :
    Met Bscan Z a0 h0 #[(.ref a1), (.int p1), (.int p4), (.int p5)] (M7 a1 a2 a3 a4 a5 a6 a7 p2 v91 v92 v93 v94 v95 v96) (fun v ds => ∃ z : Int32, v = some (.int z) ∧ (M7 a1 a2 a3 a4 a5 a6 a7 p2 v91 v92 v93 v94 v95 v96) = ds ∧ Sc P hi F p5.toInt z.toInt) := by
  refine Met.of pn15 (ls := #[.val (.ref a1), .val (.int p1), .val (.int p4), .val (.int p5), .unset, .unset, .unset, .unset, .unset, .unset, .unset]) (fun m => by first | (simp [entryFrame, mkF, argsToLocals, Value.category, Bscan]; done) | rfl) ?_
  refine go_aloadN 1 rfl d15_0 rfl rfl ?_
  refine go_get 0 1 4 rfl d15_1 rfl rfl rfl (wd hw 30 rfl) ?_
  refine go_iloadN 5 rfl d15_4 rfl ?_
  refine go_laload 6 rfl d15_5 rfl (v := (.long q1)) (Mo.el (i := 1) rfl hp hq) ?_
  refine go_lstore #[.val (.ref a1), .val (.int p1), .val (.int p4), .val (.int p5), .val (.long q1), .second, .unset, .unset, .unset, .unset, .unset] 8 rfl d15_6 rfl rfl ?_
  refine go_lload 10 rfl d15_8 rfl ?_
  refine go_aloadN 11 rfl d15_10 rfl rfl ?_
  refine go_get 0 2 14 rfl d15_11 rfl rfl rfl (wd hw 32 rfl) ?_
  refine go_iloadN 15 rfl d15_14 rfl ?_
  refine go_laload 16 rfl d15_15 rfl (v := (.long (0 : Int64))) (Mo.el (i := 2) rfl hp hs) ?_
  refine go_lor 17 rfl d15_16 rfl ?_
  rw [or0]
  refine go_lstore #[.val (.ref a1), .val (.int p1), .val (.int p4), .val (.int p5), .val (.long q1), .second, .val (.long q1), .second, .unset, .unset, .unset] 19 rfl d15_17 rfl rfl ?_
  refine go_lload 21 rfl d15_19 rfl ?_
  refine go_iloadN 22 rfl d15_21 rfl ?_
  refine go_callS 25 rfl d15_22 (wd hw 49 rfl) (wd hw 50 rfl) (wd hw 10 rfl) (wd hw 51 rfl) (by decide) (m_nf Z a0 hw h0 (M7 a1 a2 a3 a4 a5 a6 a7 p2 v91 v92 v93 v94 v95 v96) q1 p4 (by first | omega | decide) (by first | omega | decide)) (argsL := [(.long q1), (.int p4)]) (rest := []) rfl (ps := [.long, .int]) (by decide +kernel) rfl rfl 0 rfl (by decide) (by decide) (by decide) (by decide) ?_
  rintro _ _ ⟨z507, rfl, rfl, hz507⟩
  show Go Bscan Z a0 h0 _ 0 0 (M7 a1 a2 a3 a4 a5 a6 a7 p2 v91 v92 v93 v94 v95 v96) 25 #[.val (.ref a1), .val (.int p1), .val (.int p4), .val (.int p5), .val (.long q1), .second, .val (.long q1), .second, .unset, .unset, .unset] [(.int z507)]
  have nz507 := nf_of hF (by first | omega | decide) hz507
  have bz507 := nz507.1; have cz507 := nz507.2.1
  refine go_istore #[.val (.ref a1), .val (.int p1), .val (.int p4), .val (.int p5), .val (.long q1), .second, .val (.long q1), .second, .val (.int z507), .unset, .unset] 27 rfl d15_25 rfl rfl ?_
  refine go_iconst (-1 : Int32) 28 rfl d15_27 rfl ?_
  refine go_istore #[.val (.ref a1), .val (.int p1), .val (.int p4), .val (.int p5), .val (.long q1), .second, .val (.long q1), .second, .val (.int z507), .val (.int (-1 : Int32)), .unset] 30 rfl d15_28 rfl rfl ?_
  exact scan_loop Z a0 hw h0 P a1 a2 a3 a4 a5 a6 a7 v91 v92 v93 v94 v95 v96 p1 p2 p4 p5 q1 w hi F hq hs hp hF hw1 hw0 h4 h5 hhi hFd 64 _ .unset (Or.inl rfl) (by omega) (CI.start h5.1 nz507)
theorem d19_0 : decode prog_101_method_9_code 0 = .ok (.iconst 2, 1) := by decide +kernel
theorem d19_1 : decode prog_101_method_9_code 1 = .ok (.iload_n 1, 1) := by decide +kernel
theorem d19_2 : decode prog_101_method_9_code 2 = .ok (.imul, 1) := by decide +kernel
theorem d19_3 : decode prog_101_method_9_code 3 = .ok (.istore_n 2, 1) := by decide +kernel
theorem d19_4 : decode prog_101_method_9_code 4 = .ok (.iload_n 2, 1) := by decide +kernel
theorem d19_5 : decode prog_101_method_9_code 5 = .ok (.iconst 1, 1) := by decide +kernel
theorem d19_6 : decode prog_101_method_9_code 6 = .ok (.iadd, 1) := by decide +kernel
theorem d19_7 : decode prog_101_method_9_code 7 = .ok (.istore_n 3, 1) := by decide +kernel
theorem d19_8 : decode prog_101_method_9_code 8 = .ok (.aload_n 0, 1) := by decide +kernel
theorem d19_9 : decode prog_101_method_9_code 9 = .ok (.iload_n 3, 1) := by decide +kernel
theorem d19_10 : decode prog_101_method_9_code 10 = .ok (.invokevirtual 71, 3) := by decide +kernel
theorem d19_13 : decode prog_101_method_9_code 13 = .ok (.istore 4, 2) := by decide +kernel
theorem d19_15 : decode prog_101_method_9_code 15 = .ok (.bipush 64, 2) := by decide +kernel
theorem d19_17 : decode prog_101_method_9_code 17 = .ok (.iload 4, 2) := by decide +kernel
theorem d19_19 : decode prog_101_method_9_code 19 = .ok (.ishl, 1) := by decide +kernel
theorem d19_20 : decode prog_101_method_9_code 20 = .ok (.istore 5, 2) := by decide +kernel
theorem d19_22 : decode prog_101_method_9_code 22 = .ok (.aload_n 0, 1) := by decide +kernel
theorem d19_23 : decode prog_101_method_9_code 23 = .ok (.getfield 29, 3) := by decide +kernel
theorem d19_26 : decode prog_101_method_9_code 26 = .ok (.iload_n 3, 1) := by decide +kernel
theorem d19_27 : decode prog_101_method_9_code 27 = .ok (.iload 4, 2) := by decide +kernel
theorem d19_29 : decode prog_101_method_9_code 29 = .ok (.ishl, 1) := by decide +kernel
theorem d19_30 : decode prog_101_method_9_code 30 = .ok (.aload_n 0, 1) := by decide +kernel
theorem d19_31 : decode prog_101_method_9_code 31 = .ok (.getfield 21, 3) := by decide +kernel
theorem d19_34 : decode prog_101_method_9_code 34 = .ok (.isub, 1) := by decide +kernel
theorem d19_35 : decode prog_101_method_9_code 35 = .ok (.laload, 1) := by decide +kernel
theorem d19_36 : decode prog_101_method_9_code 36 = .ok (.lconst 1, 1) := by decide +kernel
theorem d19_37 : decode prog_101_method_9_code 37 = .ok (.land, 1) := by decide +kernel
theorem d19_38 : decode prog_101_method_9_code 38 = .ok (.lconst 0, 1) := by decide +kernel
theorem d19_39 : decode prog_101_method_9_code 39 = .ok (.lcmp, 1) := by decide +kernel
theorem d19_40 : decode prog_101_method_9_code 40 = .ok (.ifCond .ne 7, 3) := by decide +kernel
theorem d19_43 : decode prog_101_method_9_code 43 = .ok (.iconst 1, 1) := by decide +kernel
theorem d19_44 : decode prog_101_method_9_code 44 = .ok (.goto 4, 3) := by decide +kernel
theorem d19_48 : decode prog_101_method_9_code 48 = .ok (.istore 6, 2) := by decide +kernel
theorem d19_50 : decode prog_101_method_9_code 50 = .ok (.aload_n 0, 1) := by decide +kernel
theorem d19_51 : decode prog_101_method_9_code 51 = .ok (.getfield 32, 3) := by decide +kernel
theorem d19_54 : decode prog_101_method_9_code 54 = .ok (.iload_n 1, 1) := by decide +kernel
theorem d19_55 : decode prog_101_method_9_code 55 = .ok (.aload_n 0, 1) := by decide +kernel
theorem d19_56 : decode prog_101_method_9_code 56 = .ok (.getfield 32, 3) := by decide +kernel
theorem d19_59 : decode prog_101_method_9_code 59 = .ok (.iload_n 2, 1) := by decide +kernel
theorem d19_60 : decode prog_101_method_9_code 60 = .ok (.iaload, 1) := by decide +kernel
theorem d19_61 : decode prog_101_method_9_code 61 = .ok (.iload 5, 2) := by decide +kernel
theorem d19_63 : decode prog_101_method_9_code 63 = .ok (.if_icmp .ne 20, 3) := by decide +kernel
theorem d19_66 : decode prog_101_method_9_code 66 = .ok (.iload 6, 2) := by decide +kernel
theorem d19_68 : decode prog_101_method_9_code 68 = .ok (.ifCond .eq 15, 3) := by decide +kernel
theorem d19_71 : decode prog_101_method_9_code 71 = .ok (.iload 5, 2) := by decide +kernel
theorem d19_73 : decode prog_101_method_9_code 73 = .ok (.aload_n 0, 1) := by decide +kernel
theorem d19_74 : decode prog_101_method_9_code 74 = .ok (.getfield 32, 3) := by decide +kernel
theorem d19_77 : decode prog_101_method_9_code 77 = .ok (.iload_n 3, 1) := by decide +kernel
theorem d19_78 : decode prog_101_method_9_code 78 = .ok (.iaload, 1) := by decide +kernel
theorem d19_79 : decode prog_101_method_9_code 79 = .ok (.iadd, 1) := by decide +kernel
theorem d19_80 : decode prog_101_method_9_code 80 = .ok (.goto 9, 3) := by decide +kernel
theorem d19_83 : decode prog_101_method_9_code 83 = .ok (.aload_n 0, 1) := by decide +kernel
theorem d19_84 : decode prog_101_method_9_code 84 = .ok (.getfield 32, 3) := by decide +kernel
theorem d19_87 : decode prog_101_method_9_code 87 = .ok (.iload_n 2, 1) := by decide +kernel
theorem d19_88 : decode prog_101_method_9_code 88 = .ok (.iaload, 1) := by decide +kernel
theorem d19_89 : decode prog_101_method_9_code 89 = .ok (.iastore, 1) := by decide +kernel
theorem d19_90 : decode prog_101_method_9_code 90 = .ok (.aload_n 0, 1) := by decide +kernel
theorem d19_91 : decode prog_101_method_9_code 91 = .ok (.getfield 36, 3) := by decide +kernel
theorem d19_94 : decode prog_101_method_9_code 94 = .ok (.iload_n 1, 1) := by decide +kernel
theorem d19_95 : decode prog_101_method_9_code 95 = .ok (.aload_n 0, 1) := by decide +kernel
theorem d19_96 : decode prog_101_method_9_code 96 = .ok (.getfield 36, 3) := by decide +kernel
theorem d19_99 : decode prog_101_method_9_code 99 = .ok (.iload_n 3, 1) := by decide +kernel
theorem d19_100 : decode prog_101_method_9_code 100 = .ok (.iaload, 1) := by decide +kernel
theorem d19_101 : decode prog_101_method_9_code 101 = .ok (.iload 5, 2) := by decide +kernel
theorem d19_103 : decode prog_101_method_9_code 103 = .ok (.if_icmp .ne 20, 3) := by decide +kernel
theorem d19_106 : decode prog_101_method_9_code 106 = .ok (.iload 6, 2) := by decide +kernel
theorem d19_108 : decode prog_101_method_9_code 108 = .ok (.ifCond .eq 15, 3) := by decide +kernel
theorem d19_111 : decode prog_101_method_9_code 111 = .ok (.iload 5, 2) := by decide +kernel
theorem d19_113 : decode prog_101_method_9_code 113 = .ok (.aload_n 0, 1) := by decide +kernel
theorem d19_114 : decode prog_101_method_9_code 114 = .ok (.getfield 36, 3) := by decide +kernel
theorem d19_117 : decode prog_101_method_9_code 117 = .ok (.iload_n 2, 1) := by decide +kernel
theorem d19_118 : decode prog_101_method_9_code 118 = .ok (.iaload, 1) := by decide +kernel
theorem d19_119 : decode prog_101_method_9_code 119 = .ok (.iadd, 1) := by decide +kernel
theorem d19_120 : decode prog_101_method_9_code 120 = .ok (.goto 9, 3) := by decide +kernel
theorem d19_123 : decode prog_101_method_9_code 123 = .ok (.aload_n 0, 1) := by decide +kernel
theorem d19_124 : decode prog_101_method_9_code 124 = .ok (.getfield 36, 3) := by decide +kernel
theorem d19_127 : decode prog_101_method_9_code 127 = .ok (.iload_n 3, 1) := by decide +kernel
theorem d19_128 : decode prog_101_method_9_code 128 = .ok (.iaload, 1) := by decide +kernel
theorem d19_129 : decode prog_101_method_9_code 129 = .ok (.iastore, 1) := by decide +kernel
theorem d19_130 : decode prog_101_method_9_code 130 = .ok (.iload 6, 2) := by decide +kernel
theorem d19_132 : decode prog_101_method_9_code 132 = .ok (.ifCond .eq 19, 3) := by decide +kernel
theorem d19_135 : decode prog_101_method_9_code 135 = .ok (.aload_n 0, 1) := by decide +kernel
theorem d19_136 : decode prog_101_method_9_code 136 = .ok (.getfield 36, 3) := by decide +kernel
theorem d19_139 : decode prog_101_method_9_code 139 = .ok (.iload_n 2, 1) := by decide +kernel
theorem d19_140 : decode prog_101_method_9_code 140 = .ok (.iaload, 1) := by decide +kernel
theorem d19_141 : decode prog_101_method_9_code 141 = .ok (.aload_n 0, 1) := by decide +kernel
theorem d19_142 : decode prog_101_method_9_code 142 = .ok (.getfield 32, 3) := by decide +kernel
theorem d19_145 : decode prog_101_method_9_code 145 = .ok (.iload_n 3, 1) := by decide +kernel
theorem d19_146 : decode prog_101_method_9_code 146 = .ok (.iaload, 1) := by decide +kernel
theorem d19_147 : decode prog_101_method_9_code 147 = .ok (.iadd, 1) := by decide +kernel
theorem d19_148 : decode prog_101_method_9_code 148 = .ok (.goto 4, 3) := by decide +kernel
theorem d19_152 : decode prog_101_method_9_code 152 = .ok (.istore 7, 2) := by decide +kernel
theorem d19_154 : decode prog_101_method_9_code 154 = .ok (.aload_n 0, 1) := by decide +kernel
theorem d19_155 : decode prog_101_method_9_code 155 = .ok (.getfield 39, 3) := by decide +kernel
theorem d19_158 : decode prog_101_method_9_code 158 = .ok (.iload_n 1, 1) := by decide +kernel
theorem d19_159 : decode prog_101_method_9_code 159 = .ok (.aload_n 0, 1) := by decide +kernel
theorem d19_160 : decode prog_101_method_9_code 160 = .ok (.getfield 39, 3) := by decide +kernel
theorem d19_163 : decode prog_101_method_9_code 163 = .ok (.iload_n 2, 1) := by decide +kernel
theorem d19_164 : decode prog_101_method_9_code 164 = .ok (.iaload, 1) := by decide +kernel
theorem d19_165 : decode prog_101_method_9_code 165 = .ok (.aload_n 0, 1) := by decide +kernel
theorem d19_166 : decode prog_101_method_9_code 166 = .ok (.getfield 39, 3) := by decide +kernel
theorem d19_169 : decode prog_101_method_9_code 169 = .ok (.iload_n 3, 1) := by decide +kernel
theorem d19_170 : decode prog_101_method_9_code 170 = .ok (.iaload, 1) := by decide +kernel
theorem d19_171 : decode prog_101_method_9_code 171 = .ok (.invokestatic 9, 3) := by decide +kernel
theorem d19_174 : decode prog_101_method_9_code 174 = .ok (.iload 7, 2) := by decide +kernel
theorem d19_176 : decode prog_101_method_9_code 176 = .ok (.invokestatic 9, 3) := by decide +kernel
theorem d19_179 : decode prog_101_method_9_code 179 = .ok (.iastore, 1) := by decide +kernel
theorem d19_180 : decode prog_101_method_9_code 180 = .ok (.return_, 1) := by decide +kernel
theorem pn19 : plainFor (⟨"com/example/clauseline/clauseline/service/TakenPieces", "merge", "(I)V"⟩ : MethodName) = true := by first | (apply plainFor_of_name; simp [plainName, overriddenIn]; done) | decide +kernel
def Bmrg2_1 : Bdy := (⟨"com/example/clauseline/clauseline/service/TakenPieces", "merge", "(I)V"⟩, prog_101_method_9_code, 8, none, ({ frames := 2, cells := 0, slots := 0, locals := 27 } : Room))
theorem m_mrg2_1 (Z : State) (a0 : Array Value) (hw : ∀ d ∈ tables_1, d.before a0 Z = true) (h0 : Heap) (P : Fr1) (a1 a2 a3 a4 a5 a6 a7 : Addr) (q0 q1 : Int64) (z101 z201 z301 z102 z202 z302 z103 z203 z303 z401 : Int32) (hl : Sm P 0 64 z102.toInt z202.toInt z302.toInt) (hr : Sm P 64 128 z103.toInt z203.toInt z303.toInt) :
    Met Bmrg2_1 Z a0 h0 #[(.ref a1), (.int (1 : Int32))] (M2 a1 a2 a3 a4 a5 a6 a7 q0 q1 z101 z201 z301 z102 z202 z302 z103 z203 z303 z401) (fun v ds => ∃ z1 z2 z3 : Int32, Sm P 0 128 z1.toInt z2.toInt z3.toInt ∧ Ret none (M2 a1 a2 a3 a4 a5 a6 a7 q0 q1 z1 z2 z3 z102 z202 z302 z103 z203 z303 z401) v ds) := by
  refine Met.of pn19 (ls := #[.val (.ref a1), .val (.int (1 : Int32)), .unset, .unset, .unset, .unset, .unset, .unset]) (fun m => by first | (simp [entryFrame, mkF, argsToLocals, Value.category, Bmrg2_1]; done) | rfl) ?_
  show Go Bmrg2_1 Z a0 h0 _ 0 0 (M2 a1 a2 a3 a4 a5 a6 a7 q0 q1 z101 z201 z301 z102 z202 z302 z103 z203 z303 z401) 0 #[.val (.ref a1), .val (.int (1 : Int32)), .unset, .unset, .unset, .unset, .unset, .unset] []
  have a0_ := hl.f0; have a1_ := hl.f1; have a2_ := hl.l0; have a3_ := hl.l1; have a4_ := hl.m0; have a5_ := hl.m1
  have b0_ := hr.f0; have b1_ := hr.f1; have b2_ := hr.l0; have b3_ := hr.l1; have b4_ := hr.m0; have b5_ := hr.m1
  refine go_iconst (2 : Int32) 1 rfl d19_0 rfl ?_
  refine go_iloadN 2 rfl d19_1 rfl ?_
  refine go_imul 3 rfl d19_2 rfl ?_
  refine go_istoreN #[.val (.ref a1), .val (.int (1 : Int32)), .val (.int (2 : Int32)), .unset, .unset, .unset, .unset, .unset] 4 rfl d19_3 rfl rfl ?_
  refine go_iloadN 5 rfl d19_4 rfl ?_
  refine go_iconst (1 : Int32) 6 rfl d19_5 rfl ?_
  refine go_iadd 7 rfl d19_6 rfl ?_
  refine go_istoreN #[.val (.ref a1), .val (.int (1 : Int32)), .val (.int (2 : Int32)), .val (.int (3 : Int32)), .unset, .unset, .unset, .unset] 8 rfl d19_7 rfl rfl ?_
  refine go_aloadN 9 rfl d19_8 rfl rfl ?_
  refine go_iloadN 10 rfl d19_9 rfl ?_
  refine go_callP (host := "") 13 rfl d19_10 (Or.inl (wd hw 96 rfl)) (wd hw 97 rfl) (wd hw 98 rfl) (wd hw 9 rfl) (wd hw 10 rfl) (wd hw 99 rfl) (by decide) (Mo.exa (i := 0) rfl) (m_lb Z a0 hw h0 a1 a2 a3 a4 a5 a6 a7 [(.long q0), (.long q1)] [(.long (0 : Int64)), (.long (0 : Int64))] [(.int (0 : Int32)), (.int z101), (.int z102), (.int z103)] [(.int (0 : Int32)), (.int z201), (.int z202), (.int z203)] [(.int (0 : Int32)), (.int z301), (.int z302), (.int z303)] [(.int (0 : Int32)), (.int z401)] (3 : Int32) (2 : Int32) (0 : Int32) (by decide +kernel)) (argsL := [(.int (3 : Int32))]) (rest := []) rfl (ps := [.int]) (by decide +kernel) rfl rfl 0 rfl (by decide) (by decide) (by decide) (by decide) ?_
  rintro _ _ ⟨rfl, rfl⟩
  show Go Bmrg2_1 Z a0 h0 _ 0 0 (M2 a1 a2 a3 a4 a5 a6 a7 q0 q1 z101 z201 z301 z102 z202 z302 z103 z203 z303 z401) 13 #[.val (.ref a1), .val (.int (1 : Int32)), .val (.int (2 : Int32)), .val (.int (3 : Int32)), .unset, .unset, .unset, .unset] [(.int (0 : Int32))]
  refine go_istore #[.val (.ref a1), .val (.int (1 : Int32)), .val (.int (2 : Int32)), .val (.int (3 : Int32)), .val (.int (0 : Int32)), .unset, .unset, .unset] 15 rfl d19_13 rfl rfl ?_
  refine go_bipush (64 : Int32) 17 rfl d19_15 rfl ?_
  refine go_iload 19 rfl d19_17 rfl ?_
  refine go_ishl 20 rfl d19_19 rfl ?_
  refine go_istore #[.val (.ref a1), .val (.int (1 : Int32)), .val (.int (2 : Int32)), .val (.int (3 : Int32)), .val (.int (0 : Int32)), .val (.int (64 : Int32)), .unset, .unset] 22 rfl d19_20 rfl rfl ?_
  refine go_aloadN 23 rfl d19_22 rfl rfl ?_
  refine go_get 0 2 26 rfl d19_23 rfl rfl rfl (wd hw 32 rfl) ?_
  refine go_iloadN 27 rfl d19_26 rfl ?_
  refine go_iload 29 rfl d19_27 rfl ?_
  refine go_ishl 30 rfl d19_29 rfl ?_
  refine go_aloadN 31 rfl d19_30 rfl rfl ?_
  refine go_get 0 0 34 rfl d19_31 rfl rfl rfl (wd hw 27 rfl) ?_
  refine go_isub 35 rfl d19_34 rfl ?_
  refine go_laload 36 rfl d19_35 rfl (Mo.el (i := 2) rfl (by decide) rfl) ?_
  refine go_lconst (1 : Int64) 37 rfl d19_36 rfl ?_
  refine go_land 38 rfl d19_37 rfl ?_
  refine go_lconst (0 : Int64) 39 rfl d19_38 rfl ?_
  refine go_lcmp 40 rfl d19_39 rfl ?_
  refine go_if 47 43 rfl (by decide) rfl d19_40 rfl (fun (hc40 : (lcmpW ((0 : Int64) &&& (1 : Int64)) (0 : Int64)).toInt ≠ 0) => absurd hc40 (by decide)) (fun (hc40 : ¬ ((lcmpW ((0 : Int64) &&& (1 : Int64)) (0 : Int64)).toInt ≠ 0)) => ?_)
  refine go_iconst (1 : Int32) 44 rfl d19_43 rfl ?_
  refine go_goto 48 (by decide) rfl d19_44 ?_
  refine go_istore #[.val (.ref a1), .val (.int (1 : Int32)), .val (.int (2 : Int32)), .val (.int (3 : Int32)), .val (.int (0 : Int32)), .val (.int (64 : Int32)), .val (.int (1 : Int32)), .unset] 50 rfl d19_48 rfl rfl ?_
  refine go_aloadN 51 rfl d19_50 rfl rfl ?_
  refine go_get 0 3 54 rfl d19_51 rfl rfl rfl (wd hw 35 rfl) ?_
  refine go_iloadN 55 rfl d19_54 rfl ?_
  refine go_aloadN 56 rfl d19_55 rfl rfl ?_
  refine go_get 0 3 59 rfl d19_56 rfl rfl rfl (wd hw 35 rfl) ?_
  refine go_iloadN 60 rfl d19_59 rfl ?_
  refine go_iaload 61 rfl d19_60 rfl (Mo.el (i := 3) rfl (by decide) rfl) ?_
  refine go_iload 63 rfl d19_61 rfl ?_
  refine go_icmp 83 66 rfl (by decide) rfl d19_63 rfl (fun (hc63_14 : z102.toInt ≠ (64 : Int)) => ?_) (fun (hc63_14 : ¬ (z102.toInt ≠ (64 : Int))) => ?_)
  · refine go_aloadN 84 rfl d19_83 rfl rfl ?_
    refine go_get 0 3 87 rfl d19_84 rfl rfl rfl (wd hw 35 rfl) ?_
    refine go_iloadN 88 rfl d19_87 rfl ?_
    refine go_iaload 89 rfl d19_88 rfl (Mo.el (i := 3) rfl (by decide) rfl) ?_
    refine go_iastore 3 90 rfl d19_89 rfl rfl (by decide) (lbe rfl) ?_
    refine go_aloadN 91 rfl d19_90 rfl rfl ?_
    refine go_get 0 4 94 rfl d19_91 rfl rfl rfl (wd hw 37 rfl) ?_
    refine go_iloadN 95 rfl d19_94 rfl ?_
    refine go_aloadN 96 rfl d19_95 rfl rfl ?_
    refine go_get 0 4 99 rfl d19_96 rfl rfl rfl (wd hw 37 rfl) ?_
    refine go_iloadN 100 rfl d19_99 rfl ?_
    refine go_iaload 101 rfl d19_100 rfl (Mo.el (i := 4) rfl (by decide) rfl) ?_
    refine go_iload 103 rfl d19_101 rfl ?_
    refine go_icmp 123 106 rfl (by decide) rfl d19_103 rfl (fun (hc103_15 : z203.toInt ≠ (64 : Int)) => ?_) (fun (hc103_15 : ¬ (z203.toInt ≠ (64 : Int))) => ?_)
    · refine go_aloadN 124 rfl d19_123 rfl rfl ?_
      refine go_get 0 4 127 rfl d19_124 rfl rfl rfl (wd hw 37 rfl) ?_
      refine go_iloadN 128 rfl d19_127 rfl ?_
      refine go_iaload 129 rfl d19_128 rfl (Mo.el (i := 4) rfl (by decide) rfl) ?_
      refine go_iastore 4 130 rfl d19_129 rfl rfl (by decide) (lbe rfl) ?_
      refine go_iload 132 rfl d19_130 rfl ?_
      refine go_if 151 135 rfl (by decide) rfl d19_132 rfl (fun (hc132 : (1 : Int) = 0) => absurd hc132 (by decide)) (fun (hc132 : ¬ ((1 : Int) = 0)) => ?_)
      refine go_aloadN 136 rfl d19_135 rfl rfl ?_
      refine go_get 0 4 139 rfl d19_136 rfl rfl rfl (wd hw 37 rfl) ?_
      refine go_iloadN 140 rfl d19_139 rfl ?_
      refine go_iaload 141 rfl d19_140 rfl (Mo.el (i := 4) rfl (by decide) rfl) ?_
      refine go_aloadN 142 rfl d19_141 rfl rfl ?_
      refine go_get 0 3 145 rfl d19_142 rfl rfl rfl (wd hw 35 rfl) ?_
      refine go_iloadN 146 rfl d19_145 rfl ?_
      refine go_iaload 147 rfl d19_146 rfl (Mo.el (i := 3) rfl (by decide) rfl) ?_
      refine go_iadd 148 rfl d19_147 rfl ?_
      have fa1 : (z202 + z103).toInt = z202.toInt + z103.toInt := addE rfl rfl (by omega)
      refine go_goto 152 (by decide) rfl d19_148 ?_
      refine go_istore #[.val (.ref a1), .val (.int (1 : Int32)), .val (.int (2 : Int32)), .val (.int (3 : Int32)), .val (.int (0 : Int32)), .val (.int (64 : Int32)), .val (.int (1 : Int32)), .val (.int (z202 + z103))] 154 rfl d19_152 rfl rfl ?_
      refine go_aloadN 155 rfl d19_154 rfl rfl ?_
      refine go_get 0 5 158 rfl d19_155 rfl rfl rfl (wd hw 39 rfl) ?_
      refine go_iloadN 159 rfl d19_158 rfl ?_
      refine go_aloadN 160 rfl d19_159 rfl rfl ?_
      refine go_get 0 5 163 rfl d19_160 rfl rfl rfl (wd hw 39 rfl) ?_
      refine go_iloadN 164 rfl d19_163 rfl ?_
      refine go_iaload 165 rfl d19_164 rfl (Mo.el (i := 5) rfl (by decide) rfl) ?_
      refine go_aloadN 166 rfl d19_165 rfl rfl ?_
      refine go_get 0 5 169 rfl d19_166 rfl rfl rfl (wd hw 39 rfl) ?_
      refine go_iloadN 170 rfl d19_169 rfl ?_
      refine go_iaload 171 rfl d19_170 rfl (Mo.el (i := 5) rfl (by decide) rfl) ?_
      refine go_callS 174 rfl d19_171 (wd hw 17 rfl) (wd hw 6 rfl) (wd hw 3 rfl) (wd hw 7 rfl) (by decide) (m_max Z a0 hw h0 (mem2 a1 a2 a3 a4 a5 a6 a7 q0 q1 z102 z103 z203 z202 z301 z302 z303 z401) z302 z303) (argsL := [(.int z302), (.int z303)]) (rest := [(.int (1 : Int32)), (.ref a6)]) rfl (ps := [.int, .int]) (by decide +kernel) rfl rfl 2 rfl (by decide) (by decide) (by decide) (by decide) ?_
      rintro _ _ ⟨z9017, rfl, rfl, hz9017, gz9017⟩
      show Go Bmrg2_1 Z a0 h0 _ 0 0 (M2 a1 a2 a3 a4 a5 a6 a7 q0 q1 z102 z203 z301 z102 z202 z302 z103 z203 z303 z401) 174 #[.val (.ref a1), .val (.int (1 : Int32)), .val (.int (2 : Int32)), .val (.int (3 : Int32)), .val (.int (0 : Int32)), .val (.int (64 : Int32)), .val (.int (1 : Int32)), .val (.int (z202 + z103))] [(.int z9017), (.int (1 : Int32)), (.ref a6)]
      have kz9017 : z9017.toInt = z302.toInt ∨ z9017.toInt = z303.toInt := by rcases gz9017 with h | h <;> rw [h] <;> simp
      refine go_iload 176 rfl d19_174 rfl ?_
      refine go_callS 179 rfl d19_176 (wd hw 17 rfl) (wd hw 6 rfl) (wd hw 3 rfl) (wd hw 7 rfl) (by decide) (m_max Z a0 hw h0 (mem2 a1 a2 a3 a4 a5 a6 a7 q0 q1 z102 z103 z203 z202 z301 z302 z303 z401) z9017 (z202 + z103)) (argsL := [(.int z9017), (.int (z202 + z103))]) (rest := [(.int (1 : Int32)), (.ref a6)]) rfl (ps := [.int, .int]) (by decide +kernel) rfl rfl 2 rfl (by decide) (by decide) (by decide) (by decide) ?_
      rintro _ _ ⟨z9018, rfl, rfl, hz9018, gz9018⟩
      show Go Bmrg2_1 Z a0 h0 _ 0 0 (M2 a1 a2 a3 a4 a5 a6 a7 q0 q1 z102 z203 z301 z102 z202 z302 z103 z203 z303 z401) 179 #[.val (.ref a1), .val (.int (1 : Int32)), .val (.int (2 : Int32)), .val (.int (3 : Int32)), .val (.int (0 : Int32)), .val (.int (64 : Int32)), .val (.int (1 : Int32)), .val (.int (z202 + z103))] [(.int z9018), (.int (1 : Int32)), (.ref a6)]
      have kz9018 : z9018.toInt = z9017.toInt ∨ z9018.toInt = (z202 + z103).toInt := by rcases gz9018 with h | h <;> rw [h] <;> simp
      refine go_iastore 5 180 rfl d19_179 rfl rfl (by decide) (lbe rfl) ?_
      show Go Bmrg2_1 Z a0 h0 _ 0 0 (M2 a1 a2 a3 a4 a5 a6 a7 q0 q1 z102 z203 z9018 z102 z202 z302 z103 z203 z303 z401) 180 #[.val (.ref a1), .val (.int (1 : Int32)), .val (.int (2 : Int32)), .val (.int (3 : Int32)), .val (.int (0 : Int32)), .val (.int (64 : Int32)), .val (.int (1 : Int32)), .val (.int (z202 + z103))] []
      exact go_return d19_180 rfl rfl (by decide) (by decide) ⟨_, _, _, hl.merge hr (by omega) (by omega) (by omega) (by omega) (by omega) (by omega) (by omega) (by omega), rfl, rfl⟩
    · refine go_iload 108 rfl d19_106 rfl ?_
      refine go_if 123 111 rfl (by decide) rfl d19_108 rfl (fun (hc108 : (1 : Int) = 0) => absurd hc108 (by decide)) (fun (hc108 : ¬ ((1 : Int) = 0)) => ?_)
      refine go_iload 113 rfl d19_111 rfl ?_
      refine go_aloadN 114 rfl d19_113 rfl rfl ?_
      refine go_get 0 4 117 rfl d19_114 rfl rfl rfl (wd hw 37 rfl) ?_
      refine go_iloadN 118 rfl d19_117 rfl ?_
      refine go_iaload 119 rfl d19_118 rfl (Mo.el (i := 4) rfl (by decide) rfl) ?_
      refine go_iadd 120 rfl d19_119 rfl ?_
      have fa2 : ((64 : Int32) + z202).toInt = (64 : Int) + z202.toInt := addE rfl rfl (by omega)
      refine go_goto 129 (by decide) rfl d19_120 ?_
      refine go_iastore 4 130 rfl d19_129 rfl rfl (by decide) (lbe rfl) ?_
      refine go_iload 132 rfl d19_130 rfl ?_
      refine go_if 151 135 rfl (by decide) rfl d19_132 rfl (fun (hc132 : (1 : Int) = 0) => absurd hc132 (by decide)) (fun (hc132 : ¬ ((1 : Int) = 0)) => ?_)
      refine go_aloadN 136 rfl d19_135 rfl rfl ?_
      refine go_get 0 4 139 rfl d19_136 rfl rfl rfl (wd hw 37 rfl) ?_
      refine go_iloadN 140 rfl d19_139 rfl ?_
      refine go_iaload 141 rfl d19_140 rfl (Mo.el (i := 4) rfl (by decide) rfl) ?_
      refine go_aloadN 142 rfl d19_141 rfl rfl ?_
      refine go_get 0 3 145 rfl d19_142 rfl rfl rfl (wd hw 35 rfl) ?_
      refine go_iloadN 146 rfl d19_145 rfl ?_
      refine go_iaload 147 rfl d19_146 rfl (Mo.el (i := 3) rfl (by decide) rfl) ?_
      refine go_iadd 148 rfl d19_147 rfl ?_
      have fa3 : (z202 + z103).toInt = z202.toInt + z103.toInt := addE rfl rfl (by omega)
      refine go_goto 152 (by decide) rfl d19_148 ?_
      refine go_istore #[.val (.ref a1), .val (.int (1 : Int32)), .val (.int (2 : Int32)), .val (.int (3 : Int32)), .val (.int (0 : Int32)), .val (.int (64 : Int32)), .val (.int (1 : Int32)), .val (.int (z202 + z103))] 154 rfl d19_152 rfl rfl ?_
      refine go_aloadN 155 rfl d19_154 rfl rfl ?_
      refine go_get 0 5 158 rfl d19_155 rfl rfl rfl (wd hw 39 rfl) ?_
      refine go_iloadN 159 rfl d19_158 rfl ?_
      refine go_aloadN 160 rfl d19_159 rfl rfl ?_
      refine go_get 0 5 163 rfl d19_160 rfl rfl rfl (wd hw 39 rfl) ?_
      refine go_iloadN 164 rfl d19_163 rfl ?_
      refine go_iaload 165 rfl d19_164 rfl (Mo.el (i := 5) rfl (by decide) rfl) ?_
      refine go_aloadN 166 rfl d19_165 rfl rfl ?_
      refine go_get 0 5 169 rfl d19_166 rfl rfl rfl (wd hw 39 rfl) ?_
      refine go_iloadN 170 rfl d19_169 rfl ?_
      refine go_iaload 171 rfl d19_170 rfl (Mo.el (i := 5) rfl (by decide) rfl) ?_
      refine go_callS 174 rfl d19_171 (wd hw 17 rfl) (wd hw 6 rfl) (wd hw 3 rfl) (wd hw 7 rfl) (by decide) (m_max Z a0 hw h0 (mem3 a1 a2 a3 a4 a5 a6 a7 q0 q1 z102 z103 z202 z203 z301 z302 z303 z401) z302 z303) (argsL := [(.int z302), (.int z303)]) (rest := [(.int (1 : Int32)), (.ref a6)]) rfl (ps := [.int, .int]) (by decide +kernel) rfl rfl 2 rfl (by decide) (by decide) (by decide) (by decide) ?_
      rintro _ _ ⟨z9019, rfl, rfl, hz9019, gz9019⟩
      show Go Bmrg2_1 Z a0 h0 _ 0 0 (M2 a1 a2 a3 a4 a5 a6 a7 q0 q1 z102 ((64 : Int32) + z202) z301 z102 z202 z302 z103 z203 z303 z401) 174 #[.val (.ref a1), .val (.int (1 : Int32)), .val (.int (2 : Int32)), .val (.int (3 : Int32)), .val (.int (0 : Int32)), .val (.int (64 : Int32)), .val (.int (1 : Int32)), .val (.int (z202 + z103))] [(.int z9019), (.int (1 : Int32)), (.ref a6)]
      have kz9019 : z9019.toInt = z302.toInt ∨ z9019.toInt = z303.toInt := by rcases gz9019 with h | h <;> rw [h] <;> simp
      refine go_iload 176 rfl d19_174 rfl ?_
      refine go_callS 179 rfl d19_176 (wd hw 17 rfl) (wd hw 6 rfl) (wd hw 3 rfl) (wd hw 7 rfl) (by decide) (m_max Z a0 hw h0 (mem3 a1 a2 a3 a4 a5 a6 a7 q0 q1 z102 z103 z202 z203 z301 z302 z303 z401) z9019 (z202 + z103)) (argsL := [(.int z9019), (.int (z202 + z103))]) (rest := [(.int (1 : Int32)), (.ref a6)]) rfl (ps := [.int, .int]) (by decide +kernel) rfl rfl 2 rfl (by decide) (by decide) (by decide) (by decide) ?_
      rintro _ _ ⟨z9020, rfl, rfl, hz9020, gz9020⟩
      show Go Bmrg2_1 Z a0 h0 _ 0 0 (M2 a1 a2 a3 a4 a5 a6 a7 q0 q1 z102 ((64 : Int32) + z202) z301 z102 z202 z302 z103 z203 z303 z401) 179 #[.val (.ref a1), .val (.int (1 : Int32)), .val (.int (2 : Int32)), .val (.int (3 : Int32)), .val (.int (0 : Int32)), .val (.int (64 : Int32)), .val (.int (1 : Int32)), .val (.int (z202 + z103))] [(.int z9020), (.int (1 : Int32)), (.ref a6)]
      have kz9020 : z9020.toInt = z9019.toInt ∨ z9020.toInt = (z202 + z103).toInt := by rcases gz9020 with h | h <;> rw [h] <;> simp
      refine go_iastore 5 180 rfl d19_179 rfl rfl (by decide) (lbe rfl) ?_
      show Go Bmrg2_1 Z a0 h0 _ 0 0 (M2 a1 a2 a3 a4 a5 a6 a7 q0 q1 z102 ((64 : Int32) + z202) z9020 z102 z202 z302 z103 z203 z303 z401) 180 #[.val (.ref a1), .val (.int (1 : Int32)), .val (.int (2 : Int32)), .val (.int (3 : Int32)), .val (.int (0 : Int32)), .val (.int (64 : Int32)), .val (.int (1 : Int32)), .val (.int (z202 + z103))] []
      exact go_return d19_180 rfl rfl (by decide) (by decide) ⟨_, _, _, hl.merge hr (by omega) (by omega) (by omega) (by omega) (by omega) (by omega) (by omega) (by omega), rfl, rfl⟩
  · refine go_iload 68 rfl d19_66 rfl ?_
    refine go_if 83 71 rfl (by decide) rfl d19_68 rfl (fun (hc68 : (1 : Int) = 0) => absurd hc68 (by decide)) (fun (hc68 : ¬ ((1 : Int) = 0)) => ?_)
    refine go_iload 73 rfl d19_71 rfl ?_
    refine go_aloadN 74 rfl d19_73 rfl rfl ?_
    refine go_get 0 3 77 rfl d19_74 rfl rfl rfl (wd hw 35 rfl) ?_
    refine go_iloadN 78 rfl d19_77 rfl ?_
    refine go_iaload 79 rfl d19_78 rfl (Mo.el (i := 3) rfl (by decide) rfl) ?_
    refine go_iadd 80 rfl d19_79 rfl ?_
    have fa4 : ((64 : Int32) + z103).toInt = (64 : Int) + z103.toInt := addE rfl rfl (by omega)
    refine go_goto 89 (by decide) rfl d19_80 ?_
    refine go_iastore 3 90 rfl d19_89 rfl rfl (by decide) (lbe rfl) ?_
    refine go_aloadN 91 rfl d19_90 rfl rfl ?_
    refine go_get 0 4 94 rfl d19_91 rfl rfl rfl (wd hw 37 rfl) ?_
    refine go_iloadN 95 rfl d19_94 rfl ?_
    refine go_aloadN 96 rfl d19_95 rfl rfl ?_
    refine go_get 0 4 99 rfl d19_96 rfl rfl rfl (wd hw 37 rfl) ?_
    refine go_iloadN 100 rfl d19_99 rfl ?_
    refine go_iaload 101 rfl d19_100 rfl (Mo.el (i := 4) rfl (by decide) rfl) ?_
    refine go_iload 103 rfl d19_101 rfl ?_
    refine go_icmp 123 106 rfl (by decide) rfl d19_103 rfl (fun (hc103_20 : z203.toInt ≠ (64 : Int)) => ?_) (fun (hc103_20 : ¬ (z203.toInt ≠ (64 : Int))) => ?_)
    · refine go_aloadN 124 rfl d19_123 rfl rfl ?_
      refine go_get 0 4 127 rfl d19_124 rfl rfl rfl (wd hw 37 rfl) ?_
      refine go_iloadN 128 rfl d19_127 rfl ?_
      refine go_iaload 129 rfl d19_128 rfl (Mo.el (i := 4) rfl (by decide) rfl) ?_
      refine go_iastore 4 130 rfl d19_129 rfl rfl (by decide) (lbe rfl) ?_
      refine go_iload 132 rfl d19_130 rfl ?_
      refine go_if 151 135 rfl (by decide) rfl d19_132 rfl (fun (hc132 : (1 : Int) = 0) => absurd hc132 (by decide)) (fun (hc132 : ¬ ((1 : Int) = 0)) => ?_)
      refine go_aloadN 136 rfl d19_135 rfl rfl ?_
      refine go_get 0 4 139 rfl d19_136 rfl rfl rfl (wd hw 37 rfl) ?_
      refine go_iloadN 140 rfl d19_139 rfl ?_
      refine go_iaload 141 rfl d19_140 rfl (Mo.el (i := 4) rfl (by decide) rfl) ?_
      refine go_aloadN 142 rfl d19_141 rfl rfl ?_
      refine go_get 0 3 145 rfl d19_142 rfl rfl rfl (wd hw 35 rfl) ?_
      refine go_iloadN 146 rfl d19_145 rfl ?_
      refine go_iaload 147 rfl d19_146 rfl (Mo.el (i := 3) rfl (by decide) rfl) ?_
      refine go_iadd 148 rfl d19_147 rfl ?_
      have fa5 : (z202 + z103).toInt = z202.toInt + z103.toInt := addE rfl rfl (by omega)
      refine go_goto 152 (by decide) rfl d19_148 ?_
      refine go_istore #[.val (.ref a1), .val (.int (1 : Int32)), .val (.int (2 : Int32)), .val (.int (3 : Int32)), .val (.int (0 : Int32)), .val (.int (64 : Int32)), .val (.int (1 : Int32)), .val (.int (z202 + z103))] 154 rfl d19_152 rfl rfl ?_
      refine go_aloadN 155 rfl d19_154 rfl rfl ?_
      refine go_get 0 5 158 rfl d19_155 rfl rfl rfl (wd hw 39 rfl) ?_
      refine go_iloadN 159 rfl d19_158 rfl ?_
      refine go_aloadN 160 rfl d19_159 rfl rfl ?_
      refine go_get 0 5 163 rfl d19_160 rfl rfl rfl (wd hw 39 rfl) ?_
      refine go_iloadN 164 rfl d19_163 rfl ?_
      refine go_iaload 165 rfl d19_164 rfl (Mo.el (i := 5) rfl (by decide) rfl) ?_
      refine go_aloadN 166 rfl d19_165 rfl rfl ?_
      refine go_get 0 5 169 rfl d19_166 rfl rfl rfl (wd hw 39 rfl) ?_
      refine go_iloadN 170 rfl d19_169 rfl ?_
      refine go_iaload 171 rfl d19_170 rfl (Mo.el (i := 5) rfl (by decide) rfl) ?_
      refine go_callS 174 rfl d19_171 (wd hw 17 rfl) (wd hw 6 rfl) (wd hw 3 rfl) (wd hw 7 rfl) (by decide) (m_max Z a0 hw h0 (mem4 a1 a2 a3 a4 a5 a6 a7 q0 q1 z103 z102 z203 z202 z301 z302 z303 z401) z302 z303) (argsL := [(.int z302), (.int z303)]) (rest := [(.int (1 : Int32)), (.ref a6)]) rfl (ps := [.int, .int]) (by decide +kernel) rfl rfl 2 rfl (by decide) (by decide) (by decide) (by decide) ?_
      rintro _ _ ⟨z9022, rfl, rfl, hz9022, gz9022⟩
      show Go Bmrg2_1 Z a0 h0 _ 0 0 (M2 a1 a2 a3 a4 a5 a6 a7 q0 q1 ((64 : Int32) + z103) z203 z301 z102 z202 z302 z103 z203 z303 z401) 174 #[.val (.ref a1), .val (.int (1 : Int32)), .val (.int (2 : Int32)), .val (.int (3 : Int32)), .val (.int (0 : Int32)), .val (.int (64 : Int32)), .val (.int (1 : Int32)), .val (.int (z202 + z103))] [(.int z9022), (.int (1 : Int32)), (.ref a6)]
      have kz9022 : z9022.toInt = z302.toInt ∨ z9022.toInt = z303.toInt := by rcases gz9022 with h | h <;> rw [h] <;> simp
      refine go_iload 176 rfl d19_174 rfl ?_
      refine go_callS 179 rfl d19_176 (wd hw 17 rfl) (wd hw 6 rfl) (wd hw 3 rfl) (wd hw 7 rfl) (by decide) (m_max Z a0 hw h0 (mem4 a1 a2 a3 a4 a5 a6 a7 q0 q1 z103 z102 z203 z202 z301 z302 z303 z401) z9022 (z202 + z103)) (argsL := [(.int z9022), (.int (z202 + z103))]) (rest := [(.int (1 : Int32)), (.ref a6)]) rfl (ps := [.int, .int]) (by decide +kernel) rfl rfl 2 rfl (by decide) (by decide) (by decide) (by decide) ?_
      rintro _ _ ⟨z9023, rfl, rfl, hz9023, gz9023⟩
      show Go Bmrg2_1 Z a0 h0 _ 0 0 (M2 a1 a2 a3 a4 a5 a6 a7 q0 q1 ((64 : Int32) + z103) z203 z301 z102 z202 z302 z103 z203 z303 z401) 179 #[.val (.ref a1), .val (.int (1 : Int32)), .val (.int (2 : Int32)), .val (.int (3 : Int32)), .val (.int (0 : Int32)), .val (.int (64 : Int32)), .val (.int (1 : Int32)), .val (.int (z202 + z103))] [(.int z9023), (.int (1 : Int32)), (.ref a6)]
      have kz9023 : z9023.toInt = z9022.toInt ∨ z9023.toInt = (z202 + z103).toInt := by rcases gz9023 with h | h <;> rw [h] <;> simp
      refine go_iastore 5 180 rfl d19_179 rfl rfl (by decide) (lbe rfl) ?_
      show Go Bmrg2_1 Z a0 h0 _ 0 0 (M2 a1 a2 a3 a4 a5 a6 a7 q0 q1 ((64 : Int32) + z103) z203 z9023 z102 z202 z302 z103 z203 z303 z401) 180 #[.val (.ref a1), .val (.int (1 : Int32)), .val (.int (2 : Int32)), .val (.int (3 : Int32)), .val (.int (0 : Int32)), .val (.int (64 : Int32)), .val (.int (1 : Int32)), .val (.int (z202 + z103))] []
      exact go_return d19_180 rfl rfl (by decide) (by decide) ⟨_, _, _, hl.merge hr (by omega) (by omega) (by omega) (by omega) (by omega) (by omega) (by omega) (by omega), rfl, rfl⟩
    · refine go_iload 108 rfl d19_106 rfl ?_
      refine go_if 123 111 rfl (by decide) rfl d19_108 rfl (fun (hc108 : (1 : Int) = 0) => absurd hc108 (by decide)) (fun (hc108 : ¬ ((1 : Int) = 0)) => ?_)
      refine go_iload 113 rfl d19_111 rfl ?_
      refine go_aloadN 114 rfl d19_113 rfl rfl ?_
      refine go_get 0 4 117 rfl d19_114 rfl rfl rfl (wd hw 37 rfl) ?_
      refine go_iloadN 118 rfl d19_117 rfl ?_
      refine go_iaload 119 rfl d19_118 rfl (Mo.el (i := 4) rfl (by decide) rfl) ?_
      refine go_iadd 120 rfl d19_119 rfl ?_
      have fa6 : ((64 : Int32) + z202).toInt = (64 : Int) + z202.toInt := addE rfl rfl (by omega)
      refine go_goto 129 (by decide) rfl d19_120 ?_
      refine go_iastore 4 130 rfl d19_129 rfl rfl (by decide) (lbe rfl) ?_
      refine go_iload 132 rfl d19_130 rfl ?_
      refine go_if 151 135 rfl (by decide) rfl d19_132 rfl (fun (hc132 : (1 : Int) = 0) => absurd hc132 (by decide)) (fun (hc132 : ¬ ((1 : Int) = 0)) => ?_)
      refine go_aloadN 136 rfl d19_135 rfl rfl ?_
      refine go_get 0 4 139 rfl d19_136 rfl rfl rfl (wd hw 37 rfl) ?_
      refine go_iloadN 140 rfl d19_139 rfl ?_
      refine go_iaload 141 rfl d19_140 rfl (Mo.el (i := 4) rfl (by decide) rfl) ?_
      refine go_aloadN 142 rfl d19_141 rfl rfl ?_
      refine go_get 0 3 145 rfl d19_142 rfl rfl rfl (wd hw 35 rfl) ?_
      refine go_iloadN 146 rfl d19_145 rfl ?_
      refine go_iaload 147 rfl d19_146 rfl (Mo.el (i := 3) rfl (by decide) rfl) ?_
      refine go_iadd 148 rfl d19_147 rfl ?_
      have fa7 : (z202 + z103).toInt = z202.toInt + z103.toInt := addE rfl rfl (by omega)
      refine go_goto 152 (by decide) rfl d19_148 ?_
      refine go_istore #[.val (.ref a1), .val (.int (1 : Int32)), .val (.int (2 : Int32)), .val (.int (3 : Int32)), .val (.int (0 : Int32)), .val (.int (64 : Int32)), .val (.int (1 : Int32)), .val (.int (z202 + z103))] 154 rfl d19_152 rfl rfl ?_
      refine go_aloadN 155 rfl d19_154 rfl rfl ?_
      refine go_get 0 5 158 rfl d19_155 rfl rfl rfl (wd hw 39 rfl) ?_
      refine go_iloadN 159 rfl d19_158 rfl ?_
      refine go_aloadN 160 rfl d19_159 rfl rfl ?_
      refine go_get 0 5 163 rfl d19_160 rfl rfl rfl (wd hw 39 rfl) ?_
      refine go_iloadN 164 rfl d19_163 rfl ?_
      refine go_iaload 165 rfl d19_164 rfl (Mo.el (i := 5) rfl (by decide) rfl) ?_
      refine go_aloadN 166 rfl d19_165 rfl rfl ?_
      refine go_get 0 5 169 rfl d19_166 rfl rfl rfl (wd hw 39 rfl) ?_
      refine go_iloadN 170 rfl d19_169 rfl ?_
      refine go_iaload 171 rfl d19_170 rfl (Mo.el (i := 5) rfl (by decide) rfl) ?_
      refine go_callS 174 rfl d19_171 (wd hw 17 rfl) (wd hw 6 rfl) (wd hw 3 rfl) (wd hw 7 rfl) (by decide) (m_max Z a0 hw h0 (mem5 a1 a2 a3 a4 a5 a6 a7 q0 q1 z103 z102 z202 z203 z301 z302 z303 z401) z302 z303) (argsL := [(.int z302), (.int z303)]) (rest := [(.int (1 : Int32)), (.ref a6)]) rfl (ps := [.int, .int]) (by decide +kernel) rfl rfl 2 rfl (by decide) (by decide) (by decide) (by decide) ?_
      rintro _ _ ⟨z9024, rfl, rfl, hz9024, gz9024⟩
      show Go Bmrg2_1 Z a0 h0 _ 0 0 (M2 a1 a2 a3 a4 a5 a6 a7 q0 q1 ((64 : Int32) + z103) ((64 : Int32) + z202) z301 z102 z202 z302 z103 z203 z303 z401) 174 #[.val (.ref a1), .val (.int (1 : Int32)), .val (.int (2 : Int32)), .val (.int (3 : Int32)), .val (.int (0 : Int32)), .val (.int (64 : Int32)), .val (.int (1 : Int32)), .val (.int (z202 + z103))] [(.int z9024), (.int (1 : Int32)), (.ref a6)]
      have kz9024 : z9024.toInt = z302.toInt ∨ z9024.toInt = z303.toInt := by rcases gz9024 with h | h <;> rw [h] <;> simp
      refine go_iload 176 rfl d19_174 rfl ?_
      refine go_callS 179 rfl d19_176 (wd hw 17 rfl) (wd hw 6 rfl) (wd hw 3 rfl) (wd hw 7 rfl) (by decide) (m_max Z a0 hw h0 (mem5 a1 a2 a3 a4 a5 a6 a7 q0 q1 z103 z102 z202 z203 z301 z302 z303 z401) z9024 (z202 + z103)) (argsL := [(.int z9024), (.int (z202 + z103))]) (rest := [(.int (1 : Int32)), (.ref a6)]) rfl (ps := [.int, .int]) (by decide +kernel) rfl rfl 2 rfl (by decide) (by decide) (by decide) (by decide) ?_
      rintro _ _ ⟨z9025, rfl, rfl, hz9025, gz9025⟩
      show Go Bmrg2_1 Z a0 h0 _ 0 0 (M2 a1 a2 a3 a4 a5 a6 a7 q0 q1 ((64 : Int32) + z103) ((64 : Int32) + z202) z301 z102 z202 z302 z103 z203 z303 z401) 179 #[.val (.ref a1), .val (.int (1 : Int32)), .val (.int (2 : Int32)), .val (.int (3 : Int32)), .val (.int (0 : Int32)), .val (.int (64 : Int32)), .val (.int (1 : Int32)), .val (.int (z202 + z103))] [(.int z9025), (.int (1 : Int32)), (.ref a6)]
      have kz9025 : z9025.toInt = z9024.toInt ∨ z9025.toInt = (z202 + z103).toInt := by rcases gz9025 with h | h <;> rw [h] <;> simp
      refine go_iastore 5 180 rfl d19_179 rfl rfl (by decide) (lbe rfl) ?_
      show Go Bmrg2_1 Z a0 h0 _ 0 0 (M2 a1 a2 a3 a4 a5 a6 a7 q0 q1 ((64 : Int32) + z103) ((64 : Int32) + z202) z9025 z102 z202 z302 z103 z203 z303 z401) 180 #[.val (.ref a1), .val (.int (1 : Int32)), .val (.int (2 : Int32)), .val (.int (3 : Int32)), .val (.int (0 : Int32)), .val (.int (64 : Int32)), .val (.int (1 : Int32)), .val (.int (z202 + z103))] []
      exact go_return d19_180 rfl rfl (by decide) (by decide) ⟨_, _, _, hl.merge hr (by omega) (by omega) (by omega) (by omega) (by omega) (by omega) (by omega) (by omega), rfl, rfl⟩
def Bmrg4_1 : Bdy := (⟨"com/example/clauseline/clauseline/service/TakenPieces", "merge", "(I)V"⟩, prog_101_method_9_code, 8, none, ({ frames := 2, cells := 0, slots := 0, locals := 27 } : Room))
theorem m_mrg4_1 (Z : State) (a0 : Array Value) (hw : ∀ d ∈ tables_1, d.before a0 Z = true) (h0 : Heap) (P : Fr1) (a1 a2 a3 a4 a5 a6 a7 : Addr) (q0 q1 q2 q3 : Int64) (z101 z201 z301 z102 z202 z302 z103 z203 z303 z104 z204 z304 z105 z205 z305 z106 z206 z306 z107 z207 z307 z401 z402 z403 : Int32) (hl : Sm P 0 128 z102.toInt z202.toInt z302.toInt) (hr : Sm P 128 256 z103.toInt z203.toInt z303.toInt) :
    Met Bmrg4_1 Z a0 h0 #[(.ref a1), (.int (1 : Int32))] (M4 a1 a2 a3 a4 a5 a6 a7 q0 q1 q2 q3 z101 z201 z301 z102 z202 z302 z103 z203 z303 z104 z204 z304 z105 z205 z305 z106 z206 z306 z107 z207 z307 z401 z402 z403) (fun v ds => ∃ z1 z2 z3 : Int32, Sm P 0 256 z1.toInt z2.toInt z3.toInt ∧ Ret none (M4 a1 a2 a3 a4 a5 a6 a7 q0 q1 q2 q3 z1 z2 z3 z102 z202 z302 z103 z203 z303 z104 z204 z304 z105 z205 z305 z106 z206 z306 z107 z207 z307 z401 z402 z403) v ds) := by
  refine Met.of pn19 (ls := #[.val (.ref a1), .val (.int (1 : Int32)), .unset, .unset, .unset, .unset, .unset, .unset]) (fun m => by first | (simp [entryFrame, mkF, argsToLocals, Value.category, Bmrg4_1]; done) | rfl) ?_
  show Go Bmrg4_1 Z a0 h0 _ 0 0 (M4 a1 a2 a3 a4 a5 a6 a7 q0 q1 q2 q3 z101 z201 z301 z102 z202 z302 z103 z203 z303 z104 z204 z304 z105 z205 z305 z106 z206 z306 z107 z207 z307 z401 z402 z403) 0 #[.val (.ref a1), .val (.int (1 : Int32)), .unset, .unset, .unset, .unset, .unset, .unset] []
  have a0_ := hl.f0; have a1_ := hl.f1; have a2_ := hl.l0; have a3_ := hl.l1; have a4_ := hl.m0; have a5_ := hl.m1
  have b0_ := hr.f0; have b1_ := hr.f1; have b2_ := hr.l0; have b3_ := hr.l1; have b4_ := hr.m0; have b5_ := hr.m1
  refine go_iconst (2 : Int32) 1 rfl d19_0 rfl ?_
  refine go_iloadN 2 rfl d19_1 rfl ?_
  refine go_imul 3 rfl d19_2 rfl ?_
  refine go_istoreN #[.val (.ref a1), .val (.int (1 : Int32)), .val (.int (2 : Int32)), .unset, .unset, .unset, .unset, .unset] 4 rfl d19_3 rfl rfl ?_
  refine go_iloadN 5 rfl d19_4 rfl ?_
  refine go_iconst (1 : Int32) 6 rfl d19_5 rfl ?_
  refine go_iadd 7 rfl d19_6 rfl ?_
  refine go_istoreN #[.val (.ref a1), .val (.int (1 : Int32)), .val (.int (2 : Int32)), .val (.int (3 : Int32)), .unset, .unset, .unset, .unset] 8 rfl d19_7 rfl rfl ?_
  refine go_aloadN 9 rfl d19_8 rfl rfl ?_
  refine go_iloadN 10 rfl d19_9 rfl ?_
  refine go_callP (host := "") 13 rfl d19_10 (Or.inl (wd hw 96 rfl)) (wd hw 97 rfl) (wd hw 98 rfl) (wd hw 9 rfl) (wd hw 10 rfl) (wd hw 99 rfl) (by decide) (Mo.exa (i := 0) rfl) (m_lb Z a0 hw h0 a1 a2 a3 a4 a5 a6 a7 [(.long q0), (.long q1), (.long q2), (.long q3)] [(.long (0 : Int64)), (.long (0 : Int64)), (.long (0 : Int64)), (.long (0 : Int64))] [(.int (0 : Int32)), (.int z101), (.int z102), (.int z103), (.int z104), (.int z105), (.int z106), (.int z107)] [(.int (0 : Int32)), (.int z201), (.int z202), (.int z203), (.int z204), (.int z205), (.int z206), (.int z207)] [(.int (0 : Int32)), (.int z301), (.int z302), (.int z303), (.int z304), (.int z305), (.int z306), (.int z307)] [(.int (0 : Int32)), (.int z401), (.int z402), (.int z403)] (3 : Int32) (4 : Int32) (1 : Int32) (by decide +kernel)) (argsL := [(.int (3 : Int32))]) (rest := []) rfl (ps := [.int]) (by decide +kernel) rfl rfl 0 rfl (by decide) (by decide) (by decide) (by decide) ?_
  rintro _ _ ⟨rfl, rfl⟩
  show Go Bmrg4_1 Z a0 h0 _ 0 0 (M4 a1 a2 a3 a4 a5 a6 a7 q0 q1 q2 q3 z101 z201 z301 z102 z202 z302 z103 z203 z303 z104 z204 z304 z105 z205 z305 z106 z206 z306 z107 z207 z307 z401 z402 z403) 13 #[.val (.ref a1), .val (.int (1 : Int32)), .val (.int (2 : Int32)), .val (.int (3 : Int32)), .unset, .unset, .unset, .unset] [(.int (1 : Int32))]
  refine go_istore #[.val (.ref a1), .val (.int (1 : Int32)), .val (.int (2 : Int32)), .val (.int (3 : Int32)), .val (.int (1 : Int32)), .unset, .unset, .unset] 15 rfl d19_13 rfl rfl ?_
  refine go_bipush (64 : Int32) 17 rfl d19_15 rfl ?_
  refine go_iload 19 rfl d19_17 rfl ?_
  refine go_ishl 20 rfl d19_19 rfl ?_
  refine go_istore #[.val (.ref a1), .val (.int (1 : Int32)), .val (.int (2 : Int32)), .val (.int (3 : Int32)), .val (.int (1 : Int32)), .val (.int (128 : Int32)), .unset, .unset] 22 rfl d19_20 rfl rfl ?_
  refine go_aloadN 23 rfl d19_22 rfl rfl ?_
  refine go_get 0 2 26 rfl d19_23 rfl rfl rfl (wd hw 32 rfl) ?_
  refine go_iloadN 27 rfl d19_26 rfl ?_
  refine go_iload 29 rfl d19_27 rfl ?_
  refine go_ishl 30 rfl d19_29 rfl ?_
  refine go_aloadN 31 rfl d19_30 rfl rfl ?_
  refine go_get 0 0 34 rfl d19_31 rfl rfl rfl (wd hw 27 rfl) ?_
  refine go_isub 35 rfl d19_34 rfl ?_
  refine go_laload 36 rfl d19_35 rfl (Mo.el (i := 2) rfl (by decide) rfl) ?_
  refine go_lconst (1 : Int64) 37 rfl d19_36 rfl ?_
  refine go_land 38 rfl d19_37 rfl ?_
  refine go_lconst (0 : Int64) 39 rfl d19_38 rfl ?_
  refine go_lcmp 40 rfl d19_39 rfl ?_
  refine go_if 47 43 rfl (by decide) rfl d19_40 rfl (fun (hc40 : (lcmpW ((0 : Int64) &&& (1 : Int64)) (0 : Int64)).toInt ≠ 0) => absurd hc40 (by decide)) (fun (hc40 : ¬ ((lcmpW ((0 : Int64) &&& (1 : Int64)) (0 : Int64)).toInt ≠ 0)) => ?_)
  refine go_iconst (1 : Int32) 44 rfl d19_43 rfl ?_
  refine go_goto 48 (by decide) rfl d19_44 ?_
  refine go_istore #[.val (.ref a1), .val (.int (1 : Int32)), .val (.int (2 : Int32)), .val (.int (3 : Int32)), .val (.int (1 : Int32)), .val (.int (128 : Int32)), .val (.int (1 : Int32)), .unset] 50 rfl d19_48 rfl rfl ?_
  refine go_aloadN 51 rfl d19_50 rfl rfl ?_
  refine go_get 0 3 54 rfl d19_51 rfl rfl rfl (wd hw 35 rfl) ?_
  refine go_iloadN 55 rfl d19_54 rfl ?_
  refine go_aloadN 56 rfl d19_55 rfl rfl ?_
  refine go_get 0 3 59 rfl d19_56 rfl rfl rfl (wd hw 35 rfl) ?_
  refine go_iloadN 60 rfl d19_59 rfl ?_
  refine go_iaload 61 rfl d19_60 rfl (Mo.el (i := 3) rfl (by decide) rfl) ?_
  refine go_iload 63 rfl d19_61 rfl ?_
  refine go_icmp 83 66 rfl (by decide) rfl d19_63 rfl (fun (hc63_25 : z102.toInt ≠ (128 : Int)) => ?_) (fun (hc63_25 : ¬ (z102.toInt ≠ (128 : Int))) => ?_)
  · refine go_aloadN 84 rfl d19_83 rfl rfl ?_
    refine go_get 0 3 87 rfl d19_84 rfl rfl rfl (wd hw 35 rfl) ?_
    refine go_iloadN 88 rfl d19_87 rfl ?_
    refine go_iaload 89 rfl d19_88 rfl (Mo.el (i := 3) rfl (by decide) rfl) ?_
    refine go_iastore 3 90 rfl d19_89 rfl rfl (by decide) (lbe rfl) ?_
    refine go_aloadN 91 rfl d19_90 rfl rfl ?_
    refine go_get 0 4 94 rfl d19_91 rfl rfl rfl (wd hw 37 rfl) ?_
    refine go_iloadN 95 rfl d19_94 rfl ?_
    refine go_aloadN 96 rfl d19_95 rfl rfl ?_
    refine go_get 0 4 99 rfl d19_96 rfl rfl rfl (wd hw 37 rfl) ?_
    refine go_iloadN 100 rfl d19_99 rfl ?_
    refine go_iaload 101 rfl d19_100 rfl (Mo.el (i := 4) rfl (by decide) rfl) ?_
    refine go_iload 103 rfl d19_101 rfl ?_
    refine go_icmp 123 106 rfl (by decide) rfl d19_103 rfl (fun (hc103_26 : z203.toInt ≠ (128 : Int)) => ?_) (fun (hc103_26 : ¬ (z203.toInt ≠ (128 : Int))) => ?_)
    · refine go_aloadN 124 rfl d19_123 rfl rfl ?_
      refine go_get 0 4 127 rfl d19_124 rfl rfl rfl (wd hw 37 rfl) ?_
      refine go_iloadN 128 rfl d19_127 rfl ?_
      refine go_iaload 129 rfl d19_128 rfl (Mo.el (i := 4) rfl (by decide) rfl) ?_
      refine go_iastore 4 130 rfl d19_129 rfl rfl (by decide) (lbe rfl) ?_
      refine go_iload 132 rfl d19_130 rfl ?_
      refine go_if 151 135 rfl (by decide) rfl d19_132 rfl (fun (hc132 : (1 : Int) = 0) => absurd hc132 (by decide)) (fun (hc132 : ¬ ((1 : Int) = 0)) => ?_)
      refine go_aloadN 136 rfl d19_135 rfl rfl ?_
      refine go_get 0 4 139 rfl d19_136 rfl rfl rfl (wd hw 37 rfl) ?_
      refine go_iloadN 140 rfl d19_139 rfl ?_
      refine go_iaload 141 rfl d19_140 rfl (Mo.el (i := 4) rfl (by decide) rfl) ?_
      refine go_aloadN 142 rfl d19_141 rfl rfl ?_
      refine go_get 0 3 145 rfl d19_142 rfl rfl rfl (wd hw 35 rfl) ?_
      refine go_iloadN 146 rfl d19_145 rfl ?_
      refine go_iaload 147 rfl d19_146 rfl (Mo.el (i := 3) rfl (by decide) rfl) ?_
      refine go_iadd 148 rfl d19_147 rfl ?_
      have fa1 : (z202 + z103).toInt = z202.toInt + z103.toInt := addE rfl rfl (by omega)
      refine go_goto 152 (by decide) rfl d19_148 ?_
      refine go_istore #[.val (.ref a1), .val (.int (1 : Int32)), .val (.int (2 : Int32)), .val (.int (3 : Int32)), .val (.int (1 : Int32)), .val (.int (128 : Int32)), .val (.int (1 : Int32)), .val (.int (z202 + z103))] 154 rfl d19_152 rfl rfl ?_
      refine go_aloadN 155 rfl d19_154 rfl rfl ?_
      refine go_get 0 5 158 rfl d19_155 rfl rfl rfl (wd hw 39 rfl) ?_
      refine go_iloadN 159 rfl d19_158 rfl ?_
      refine go_aloadN 160 rfl d19_159 rfl rfl ?_
      refine go_get 0 5 163 rfl d19_160 rfl rfl rfl (wd hw 39 rfl) ?_
      refine go_iloadN 164 rfl d19_163 rfl ?_
      refine go_iaload 165 rfl d19_164 rfl (Mo.el (i := 5) rfl (by decide) rfl) ?_
      refine go_aloadN 166 rfl d19_165 rfl rfl ?_
      refine go_get 0 5 169 rfl d19_166 rfl rfl rfl (wd hw 39 rfl) ?_
      refine go_iloadN 170 rfl d19_169 rfl ?_
      refine go_iaload 171 rfl d19_170 rfl (Mo.el (i := 5) rfl (by decide) rfl) ?_
      refine go_callS 174 rfl d19_171 (wd hw 17 rfl) (wd hw 6 rfl) (wd hw 3 rfl) (wd hw 7 rfl) (by decide) (m_max Z a0 hw h0 (mem6 a1 a2 a3 a4 a5 a6 a7 q0 q1 q2 q3 z102 z103 z104 z105 z106 z107 z203 z202 z204 z205 z206 z207 z301 z302 z303 z304 z305 z306 z307 z401 z402 z403) z302 z303) (argsL := [(.int z302), (.int z303)]) (rest := [(.int (1 : Int32)), (.ref a6)]) rfl (ps := [.int, .int]) (by decide +kernel) rfl rfl 2 rfl (by decide) (by decide) (by decide) (by decide) ?_
      rintro _ _ ⟨z9028, rfl, rfl, hz9028, gz9028⟩
      show Go Bmrg4_1 Z a0 h0 _ 0 0 (M4 a1 a2 a3 a4 a5 a6 a7 q0 q1 q2 q3 z102 z203 z301 z102 z202 z302 z103 z203 z303 z104 z204 z304 z105 z205 z305 z106 z206 z306 z107 z207 z307 z401 z402 z403) 174 #[.val (.ref a1), .val (.int (1 : Int32)), .val (.int (2 : Int32)), .val (.int (3 : Int32)), .val (.int (1 : Int32)), .val (.int (128 : Int32)), .val (.int (1 : Int32)), .val (.int (z202 + z103))] [(.int z9028), (.int (1 : Int32)), (.ref a6)]
      have kz9028 : z9028.toInt = z302.toInt ∨ z9028.toInt = z303.toInt := by rcases gz9028 with h | h <;> rw [h] <;> simp
      refine go_iload 176 rfl d19_174 rfl ?_
      refine go_callS 179 rfl d19_176 (wd hw 17 rfl) (wd hw 6 rfl) (wd hw 3 rfl) (wd hw 7 rfl) (by decide) (m_max Z a0 hw h0 (mem6 a1 a2 a3 a4 a5 a6 a7 q0 q1 q2 q3 z102 z103 z104 z105 z106 z107 z203 z202 z204 z205 z206 z207 z301 z302 z303 z304 z305 z306 z307 z401 z402 z403) z9028 (z202 + z103)) (argsL := [(.int z9028), (.int (z202 + z103))]) (rest := [(.int (1 : Int32)), (.ref a6)]) rfl (ps := [.int, .int]) (by decide +kernel) rfl rfl 2 rfl (by decide) (by decide) (by decide) (by decide) ?_
      rintro _ _ ⟨z9029, rfl, rfl, hz9029, gz9029⟩
      show Go Bmrg4_1 Z a0 h0 _ 0 0 (M4 a1 a2 a3 a4 a5 a6 a7 q0 q1 q2 q3 z102 z203 z301 z102 z202 z302 z103 z203 z303 z104 z204 z304 z105 z205 z305 z106 z206 z306 z107 z207 z307 z401 z402 z403) 179 #[.val (.ref a1), .val (.int (1 : Int32)), .val (.int (2 : Int32)), .val (.int (3 : Int32)), .val (.int (1 : Int32)), .val (.int (128 : Int32)), .val (.int (1 : Int32)), .val (.int (z202 + z103))] [(.int z9029), (.int (1 : Int32)), (.ref a6)]
      have kz9029 : z9029.toInt = z9028.toInt ∨ z9029.toInt = (z202 + z103).toInt := by rcases gz9029 with h | h <;> rw [h] <;> simp
      refine go_iastore 5 180 rfl d19_179 rfl rfl (by decide) (lbe rfl) ?_
      show Go Bmrg4_1 Z a0 h0 _ 0 0 (M4 a1 a2 a3 a4 a5 a6 a7 q0 q1 q2 q3 z102 z203 z9029 z102 z202 z302 z103 z203 z303 z104 z204 z304 z105 z205 z305 z106 z206 z306 z107 z207 z307 z401 z402 z403) 180 #[.val (.ref a1), .val (.int (1 : Int32)), .val (.int (2 : Int32)), .val (.int (3 : Int32)), .val (.int (1 : Int32)), .val (.int (128 : Int32)), .val (.int (1 : Int32)), .val (.int (z202 + z103))] []
      exact go_return d19_180 rfl rfl (by decide) (by decide) ⟨_, _, _, hl.merge hr (by omega) (by omega) (by omega) (by omega) (by omega) (by omega) (by omega) (by omega), rfl, rfl⟩
    · refine go_iload 108 rfl d19_106 rfl ?_
      refine go_if 123 111 rfl (by decide) rfl d19_108 rfl (fun (hc108 : (1 : Int) = 0) => absurd hc108 (by decide)) (fun (hc108 : ¬ ((1 : Int) = 0)) => ?_)
      refine go_iload 113 rfl d19_111 rfl ?_
      refine go_aloadN 114 rfl d19_113 rfl rfl ?_
      refine go_get 0 4 117 rfl d19_114 rfl rfl rfl (wd hw 37 rfl) ?_
      refine go_iloadN 118 rfl d19_117 rfl ?_
      refine go_iaload 119 rfl d19_118 rfl (Mo.el (i := 4) rfl (by decide) rfl) ?_
      refine go_iadd 120 rfl d19_119 rfl ?_
      have fa2 : ((128 : Int32) + z202).toInt = (128 : Int) + z202.toInt := addE rfl rfl (by omega)
      refine go_goto 129 (by decide) rfl d19_120 ?_
      refine go_iastore 4 130 rfl d19_129 rfl rfl (by decide) (lbe rfl) ?_
      refine go_iload 132 rfl d19_130 rfl ?_
      refine go_if 151 135 rfl (by decide) rfl d19_132 rfl (fun (hc132 : (1 : Int) = 0) => absurd hc132 (by decide)) (fun (hc132 : ¬ ((1 : Int) = 0)) => ?_)
      refine go_aloadN 136 rfl d19_135 rfl rfl ?_
      refine go_get 0 4 139 rfl d19_136 rfl rfl rfl (wd hw 37 rfl) ?_
      refine go_iloadN 140 rfl d19_139 rfl ?_
      refine go_iaload 141 rfl d19_140 rfl (Mo.el (i := 4) rfl (by decide) rfl) ?_
      refine go_aloadN 142 rfl d19_141 rfl rfl ?_
      refine go_get 0 3 145 rfl d19_142 rfl rfl rfl (wd hw 35 rfl) ?_
      refine go_iloadN 146 rfl d19_145 rfl ?_
      refine go_iaload 147 rfl d19_146 rfl (Mo.el (i := 3) rfl (by decide) rfl) ?_
      refine go_iadd 148 rfl d19_147 rfl ?_
      have fa3 : (z202 + z103).toInt = z202.toInt + z103.toInt := addE rfl rfl (by omega)
      refine go_goto 152 (by decide) rfl d19_148 ?_
      refine go_istore #[.val (.ref a1), .val (.int (1 : Int32)), .val (.int (2 : Int32)), .val (.int (3 : Int32)), .val (.int (1 : Int32)), .val (.int (128 : Int32)), .val (.int (1 : Int32)), .val (.int (z202 + z103))] 154 rfl d19_152 rfl rfl ?_
      refine go_aloadN 155 rfl d19_154 rfl rfl ?_
      refine go_get 0 5 158 rfl d19_155 rfl rfl rfl (wd hw 39 rfl) ?_
      refine go_iloadN 159 rfl d19_158 rfl ?_
      refine go_aloadN 160 rfl d19_159 rfl rfl ?_
      refine go_get 0 5 163 rfl d19_160 rfl rfl rfl (wd hw 39 rfl) ?_
      refine go_iloadN 164 rfl d19_163 rfl ?_
      refine go_iaload 165 rfl d19_164 rfl (Mo.el (i := 5) rfl (by decide) rfl) ?_
      refine go_aloadN 166 rfl d19_165 rfl rfl ?_
      refine go_get 0 5 169 rfl d19_166 rfl rfl rfl (wd hw 39 rfl) ?_
      refine go_iloadN 170 rfl d19_169 rfl ?_
      refine go_iaload 171 rfl d19_170 rfl (Mo.el (i := 5) rfl (by decide) rfl) ?_
      refine go_callS 174 rfl d19_171 (wd hw 17 rfl) (wd hw 6 rfl) (wd hw 3 rfl) (wd hw 7 rfl) (by decide) (m_max Z a0 hw h0 (mem7 a1 a2 a3 a4 a5 a6 a7 q0 q1 q2 q3 z102 z103 z104 z105 z106 z107 z202 z203 z204 z205 z206 z207 z301 z302 z303 z304 z305 z306 z307 z401 z402 z403) z302 z303) (argsL := [(.int z302), (.int z303)]) (rest := [(.int (1 : Int32)), (.ref a6)]) rfl (ps := [.int, .int]) (by decide +kernel) rfl rfl 2 rfl (by decide) (by decide) (by decide) (by decide) ?_
      rintro _ _ ⟨z9030, rfl, rfl, hz9030, gz9030⟩
      show Go Bmrg4_1 Z a0 h0 _ 0 0 (M4 a1 a2 a3 a4 a5 a6 a7 q0 q1 q2 q3 z102 ((128 : Int32) + z202) z301 z102 z202 z302 z103 z203 z303 z104 z204 z304 z105 z205 z305 z106 z206 z306 z107 z207 z307 z401 z402 z403) 174 #[.val (.ref a1), .val (.int (1 : Int32)), .val (.int (2 : Int32)), .val (.int (3 : Int32)), .val (.int (1 : Int32)), .val (.int (128 : Int32)), .val (.int (1 : Int32)), .val (.int (z202 + z103))] [(.int z9030), (.int (1 : Int32)), (.ref a6)]
      have kz9030 : z9030.toInt = z302.toInt ∨ z9030.toInt = z303.toInt := by rcases gz9030 with h | h <;> rw [h] <;> simp
      refine go_iload 176 rfl d19_174 rfl ?_
      refine go_callS 179 rfl d19_176 (wd hw 17 rfl) (wd hw 6 rfl) (wd hw 3 rfl) (wd hw 7 rfl) (by decide) (m_max Z a0 hw h0 (mem7 a1 a2 a3 a4 a5 a6 a7 q0 q1 q2 q3 z102 z103 z104 z105 z106 z107 z202 z203 z204 z205 z206 z207 z301 z302 z303 z304 z305 z306 z307 z401 z402 z403) z9030 (z202 + z103)) (argsL := [(.int z9030), (.int (z202 + z103))]) (rest := [(.int (1 : Int32)), (.ref a6)]) rfl (ps := [.int, .int]) (by decide +kernel) rfl rfl 2 rfl (by decide) (by decide) (by decide) (by decide) ?_
      rintro _ _ ⟨z9031, rfl, rfl, hz9031, gz9031⟩
      show Go Bmrg4_1 Z a0 h0 _ 0 0 (M4 a1 a2 a3 a4 a5 a6 a7 q0 q1 q2 q3 z102 ((128 : Int32) + z202) z301 z102 z202 z302 z103 z203 z303 z104 z204 z304 z105 z205 z305 z106 z206 z306 z107 z207 z307 z401 z402 z403) 179 #[.val (.ref a1), .val (.int (1 : Int32)), .val (.int (2 : Int32)), .val (.int (3 : Int32)), .val (.int (1 : Int32)), .val (.int (128 : Int32)), .val (.int (1 : Int32)), .val (.int (z202 + z103))] [(.int z9031), (.int (1 : Int32)), (.ref a6)]
      have kz9031 : z9031.toInt = z9030.toInt ∨ z9031.toInt = (z202 + z103).toInt := by rcases gz9031 with h | h <;> rw [h] <;> simp
      refine go_iastore 5 180 rfl d19_179 rfl rfl (by decide) (lbe rfl) ?_
      show Go Bmrg4_1 Z a0 h0 _ 0 0 (M4 a1 a2 a3 a4 a5 a6 a7 q0 q1 q2 q3 z102 ((128 : Int32) + z202) z9031 z102 z202 z302 z103 z203 z303 z104 z204 z304 z105 z205 z305 z106 z206 z306 z107 z207 z307 z401 z402 z403) 180 #[.val (.ref a1), .val (.int (1 : Int32)), .val (.int (2 : Int32)), .val (.int (3 : Int32)), .val (.int (1 : Int32)), .val (.int (128 : Int32)), .val (.int (1 : Int32)), .val (.int (z202 + z103))] []
      exact go_return d19_180 rfl rfl (by decide) (by decide) ⟨_, _, _, hl.merge hr (by omega) (by omega) (by omega) (by omega) (by omega) (by omega) (by omega) (by omega), rfl, rfl⟩
  · refine go_iload 68 rfl d19_66 rfl ?_
    refine go_if 83 71 rfl (by decide) rfl d19_68 rfl (fun (hc68 : (1 : Int) = 0) => absurd hc68 (by decide)) (fun (hc68 : ¬ ((1 : Int) = 0)) => ?_)
    refine go_iload 73 rfl d19_71 rfl ?_
    refine go_aloadN 74 rfl d19_73 rfl rfl ?_
    refine go_get 0 3 77 rfl d19_74 rfl rfl rfl (wd hw 35 rfl) ?_
    refine go_iloadN 78 rfl d19_77 rfl ?_
    refine go_iaload 79 rfl d19_78 rfl (Mo.el (i := 3) rfl (by decide) rfl) ?_
    refine go_iadd 80 rfl d19_79 rfl ?_
    have fa4 : ((128 : Int32) + z103).toInt = (128 : Int) + z103.toInt := addE rfl rfl (by omega)
    refine go_goto 89 (by decide) rfl d19_80 ?_
    refine go_iastore 3 90 rfl d19_89 rfl rfl (by decide) (lbe rfl) ?_
    refine go_aloadN 91 rfl d19_90 rfl rfl ?_
    refine go_get 0 4 94 rfl d19_91 rfl rfl rfl (wd hw 37 rfl) ?_
    refine go_iloadN 95 rfl d19_94 rfl ?_
    refine go_aloadN 96 rfl d19_95 rfl rfl ?_
    refine go_get 0 4 99 rfl d19_96 rfl rfl rfl (wd hw 37 rfl) ?_
    refine go_iloadN 100 rfl d19_99 rfl ?_
    refine go_iaload 101 rfl d19_100 rfl (Mo.el (i := 4) rfl (by decide) rfl) ?_
    refine go_iload 103 rfl d19_101 rfl ?_
    refine go_icmp 123 106 rfl (by decide) rfl d19_103 rfl (fun (hc103_31 : z203.toInt ≠ (128 : Int)) => ?_) (fun (hc103_31 : ¬ (z203.toInt ≠ (128 : Int))) => ?_)
    · refine go_aloadN 124 rfl d19_123 rfl rfl ?_
      refine go_get 0 4 127 rfl d19_124 rfl rfl rfl (wd hw 37 rfl) ?_
      refine go_iloadN 128 rfl d19_127 rfl ?_
      refine go_iaload 129 rfl d19_128 rfl (Mo.el (i := 4) rfl (by decide) rfl) ?_
      refine go_iastore 4 130 rfl d19_129 rfl rfl (by decide) (lbe rfl) ?_
      refine go_iload 132 rfl d19_130 rfl ?_
      refine go_if 151 135 rfl (by decide) rfl d19_132 rfl (fun (hc132 : (1 : Int) = 0) => absurd hc132 (by decide)) (fun (hc132 : ¬ ((1 : Int) = 0)) => ?_)
      refine go_aloadN 136 rfl d19_135 rfl rfl ?_
      refine go_get 0 4 139 rfl d19_136 rfl rfl rfl (wd hw 37 rfl) ?_
      refine go_iloadN 140 rfl d19_139 rfl ?_
      refine go_iaload 141 rfl d19_140 rfl (Mo.el (i := 4) rfl (by decide) rfl) ?_
      refine go_aloadN 142 rfl d19_141 rfl rfl ?_
      refine go_get 0 3 145 rfl d19_142 rfl rfl rfl (wd hw 35 rfl) ?_
      refine go_iloadN 146 rfl d19_145 rfl ?_
      refine go_iaload 147 rfl d19_146 rfl (Mo.el (i := 3) rfl (by decide) rfl) ?_
      refine go_iadd 148 rfl d19_147 rfl ?_
      have fa5 : (z202 + z103).toInt = z202.toInt + z103.toInt := addE rfl rfl (by omega)
      refine go_goto 152 (by decide) rfl d19_148 ?_
      refine go_istore #[.val (.ref a1), .val (.int (1 : Int32)), .val (.int (2 : Int32)), .val (.int (3 : Int32)), .val (.int (1 : Int32)), .val (.int (128 : Int32)), .val (.int (1 : Int32)), .val (.int (z202 + z103))] 154 rfl d19_152 rfl rfl ?_
      refine go_aloadN 155 rfl d19_154 rfl rfl ?_
      refine go_get 0 5 158 rfl d19_155 rfl rfl rfl (wd hw 39 rfl) ?_
      refine go_iloadN 159 rfl d19_158 rfl ?_
      refine go_aloadN 160 rfl d19_159 rfl rfl ?_
      refine go_get 0 5 163 rfl d19_160 rfl rfl rfl (wd hw 39 rfl) ?_
      refine go_iloadN 164 rfl d19_163 rfl ?_
      refine go_iaload 165 rfl d19_164 rfl (Mo.el (i := 5) rfl (by decide) rfl) ?_
      refine go_aloadN 166 rfl d19_165 rfl rfl ?_
      refine go_get 0 5 169 rfl d19_166 rfl rfl rfl (wd hw 39 rfl) ?_
      refine go_iloadN 170 rfl d19_169 rfl ?_
      refine go_iaload 171 rfl d19_170 rfl (Mo.el (i := 5) rfl (by decide) rfl) ?_
      refine go_callS 174 rfl d19_171 (wd hw 17 rfl) (wd hw 6 rfl) (wd hw 3 rfl) (wd hw 7 rfl) (by decide) (m_max Z a0 hw h0 (mem8 a1 a2 a3 a4 a5 a6 a7 q0 q1 q2 q3 z103 z102 z104 z105 z106 z107 z203 z202 z204 z205 z206 z207 z301 z302 z303 z304 z305 z306 z307 z401 z402 z403) z302 z303) (argsL := [(.int z302), (.int z303)]) (rest := [(.int (1 : Int32)), (.ref a6)]) rfl (ps := [.int, .int]) (by decide +kernel) rfl rfl 2 rfl (by decide) (by decide) (by decide) (by decide) ?_
      rintro _ _ ⟨z9033, rfl, rfl, hz9033, gz9033⟩
      show Go Bmrg4_1 Z a0 h0 _ 0 0 (M4 a1 a2 a3 a4 a5 a6 a7 q0 q1 q2 q3 ((128 : Int32) + z103) z203 z301 z102 z202 z302 z103 z203 z303 z104 z204 z304 z105 z205 z305 z106 z206 z306 z107 z207 z307 z401 z402 z403) 174 #[.val (.ref a1), .val (.int (1 : Int32)), .val (.int (2 : Int32)), .val (.int (3 : Int32)), .val (.int (1 : Int32)), .val (.int (128 : Int32)), .val (.int (1 : Int32)), .val (.int (z202 + z103))] [(.int z9033), (.int (1 : Int32)), (.ref a6)]
      have kz9033 : z9033.toInt = z302.toInt ∨ z9033.toInt = z303.toInt := by rcases gz9033 with h | h <;> rw [h] <;> simp
      refine go_iload 176 rfl d19_174 rfl ?_
      refine go_callS 179 rfl d19_176 (wd hw 17 rfl) (wd hw 6 rfl) (wd hw 3 rfl) (wd hw 7 rfl) (by decide) (m_max Z a0 hw h0 (mem8 a1 a2 a3 a4 a5 a6 a7 q0 q1 q2 q3 z103 z102 z104 z105 z106 z107 z203 z202 z204 z205 z206 z207 z301 z302 z303 z304 z305 z306 z307 z401 z402 z403) z9033 (z202 + z103)) (argsL := [(.int z9033), (.int (z202 + z103))]) (rest := [(.int (1 : Int32)), (.ref a6)]) rfl (ps := [.int, .int]) (by decide +kernel) rfl rfl 2 rfl (by decide) (by decide) (by decide) (by decide) ?_
      rintro _ _ ⟨z9034, rfl, rfl, hz9034, gz9034⟩
      show Go Bmrg4_1 Z a0 h0 _ 0 0 (M4 a1 a2 a3 a4 a5 a6 a7 q0 q1 q2 q3 ((128 : Int32) + z103) z203 z301 z102 z202 z302 z103 z203 z303 z104 z204 z304 z105 z205 z305 z106 z206 z306 z107 z207 z307 z401 z402 z403) 179 #[.val (.ref a1), .val (.int (1 : Int32)), .val (.int (2 : Int32)), .val (.int (3 : Int32)), .val (.int (1 : Int32)), .val (.int (128 : Int32)), .val (.int (1 : Int32)), .val (.int (z202 + z103))] [(.int z9034), (.int (1 : Int32)), (.ref a6)]
      have kz9034 : z9034.toInt = z9033.toInt ∨ z9034.toInt = (z202 + z103).toInt := by rcases gz9034 with h | h <;> rw [h] <;> simp
      refine go_iastore 5 180 rfl d19_179 rfl rfl (by decide) (lbe rfl) ?_
      show Go Bmrg4_1 Z a0 h0 _ 0 0 (M4 a1 a2 a3 a4 a5 a6 a7 q0 q1 q2 q3 ((128 : Int32) + z103) z203 z9034 z102 z202 z302 z103 z203 z303 z104 z204 z304 z105 z205 z305 z106 z206 z306 z107 z207 z307 z401 z402 z403) 180 #[.val (.ref a1), .val (.int (1 : Int32)), .val (.int (2 : Int32)), .val (.int (3 : Int32)), .val (.int (1 : Int32)), .val (.int (128 : Int32)), .val (.int (1 : Int32)), .val (.int (z202 + z103))] []
      exact go_return d19_180 rfl rfl (by decide) (by decide) ⟨_, _, _, hl.merge hr (by omega) (by omega) (by omega) (by omega) (by omega) (by omega) (by omega) (by omega), rfl, rfl⟩
    · refine go_iload 108 rfl d19_106 rfl ?_
      refine go_if 123 111 rfl (by decide) rfl d19_108 rfl (fun (hc108 : (1 : Int) = 0) => absurd hc108 (by decide)) (fun (hc108 : ¬ ((1 : Int) = 0)) => ?_)
      refine go_iload 113 rfl d19_111 rfl ?_
      refine go_aloadN 114 rfl d19_113 rfl rfl ?_
      refine go_get 0 4 117 rfl d19_114 rfl rfl rfl (wd hw 37 rfl) ?_
      refine go_iloadN 118 rfl d19_117 rfl ?_
      refine go_iaload 119 rfl d19_118 rfl (Mo.el (i := 4) rfl (by decide) rfl) ?_
      refine go_iadd 120 rfl d19_119 rfl ?_
      have fa6 : ((128 : Int32) + z202).toInt = (128 : Int) + z202.toInt := addE rfl rfl (by omega)
      refine go_goto 129 (by decide) rfl d19_120 ?_
      refine go_iastore 4 130 rfl d19_129 rfl rfl (by decide) (lbe rfl) ?_
      refine go_iload 132 rfl d19_130 rfl ?_
      refine go_if 151 135 rfl (by decide) rfl d19_132 rfl (fun (hc132 : (1 : Int) = 0) => absurd hc132 (by decide)) (fun (hc132 : ¬ ((1 : Int) = 0)) => ?_)
      refine go_aloadN 136 rfl d19_135 rfl rfl ?_
      refine go_get 0 4 139 rfl d19_136 rfl rfl rfl (wd hw 37 rfl) ?_
      refine go_iloadN 140 rfl d19_139 rfl ?_
      refine go_iaload 141 rfl d19_140 rfl (Mo.el (i := 4) rfl (by decide) rfl) ?_
      refine go_aloadN 142 rfl d19_141 rfl rfl ?_
      refine go_get 0 3 145 rfl d19_142 rfl rfl rfl (wd hw 35 rfl) ?_
      refine go_iloadN 146 rfl d19_145 rfl ?_
      refine go_iaload 147 rfl d19_146 rfl (Mo.el (i := 3) rfl (by decide) rfl) ?_
      refine go_iadd 148 rfl d19_147 rfl ?_
      have fa7 : (z202 + z103).toInt = z202.toInt + z103.toInt := addE rfl rfl (by omega)
      refine go_goto 152 (by decide) rfl d19_148 ?_
      refine go_istore #[.val (.ref a1), .val (.int (1 : Int32)), .val (.int (2 : Int32)), .val (.int (3 : Int32)), .val (.int (1 : Int32)), .val (.int (128 : Int32)), .val (.int (1 : Int32)), .val (.int (z202 + z103))] 154 rfl d19_152 rfl rfl ?_
      refine go_aloadN 155 rfl d19_154 rfl rfl ?_
      refine go_get 0 5 158 rfl d19_155 rfl rfl rfl (wd hw 39 rfl) ?_
      refine go_iloadN 159 rfl d19_158 rfl ?_
      refine go_aloadN 160 rfl d19_159 rfl rfl ?_
      refine go_get 0 5 163 rfl d19_160 rfl rfl rfl (wd hw 39 rfl) ?_
      refine go_iloadN 164 rfl d19_163 rfl ?_
      refine go_iaload 165 rfl d19_164 rfl (Mo.el (i := 5) rfl (by decide) rfl) ?_
      refine go_aloadN 166 rfl d19_165 rfl rfl ?_
      refine go_get 0 5 169 rfl d19_166 rfl rfl rfl (wd hw 39 rfl) ?_
      refine go_iloadN 170 rfl d19_169 rfl ?_
      refine go_iaload 171 rfl d19_170 rfl (Mo.el (i := 5) rfl (by decide) rfl) ?_
      refine go_callS 174 rfl d19_171 (wd hw 17 rfl) (wd hw 6 rfl) (wd hw 3 rfl) (wd hw 7 rfl) (by decide) (m_max Z a0 hw h0 (mem9 a1 a2 a3 a4 a5 a6 a7 q0 q1 q2 q3 z103 z102 z104 z105 z106 z107 z202 z203 z204 z205 z206 z207 z301 z302 z303 z304 z305 z306 z307 z401 z402 z403) z302 z303) (argsL := [(.int z302), (.int z303)]) (rest := [(.int (1 : Int32)), (.ref a6)]) rfl (ps := [.int, .int]) (by decide +kernel) rfl rfl 2 rfl (by decide) (by decide) (by decide) (by decide) ?_
      rintro _ _ ⟨z9035, rfl, rfl, hz9035, gz9035⟩
      show Go Bmrg4_1 Z a0 h0 _ 0 0 (M4 a1 a2 a3 a4 a5 a6 a7 q0 q1 q2 q3 ((128 : Int32) + z103) ((128 : Int32) + z202) z301 z102 z202 z302 z103 z203 z303 z104 z204 z304 z105 z205 z305 z106 z206 z306 z107 z207 z307 z401 z402 z403) 174 #[.val (.ref a1), .val (.int (1 : Int32)), .val (.int (2 : Int32)), .val (.int (3 : Int32)), .val (.int (1 : Int32)), .val (.int (128 : Int32)), .val (.int (1 : Int32)), .val (.int (z202 + z103))] [(.int z9035), (.int (1 : Int32)), (.ref a6)]
      have kz9035 : z9035.toInt = z302.toInt ∨ z9035.toInt = z303.toInt := by rcases gz9035 with h | h <;> rw [h] <;> simp
      refine go_iload 176 rfl d19_174 rfl ?_
      refine go_callS 179 rfl d19_176 (wd hw 17 rfl) (wd hw 6 rfl) (wd hw 3 rfl) (wd hw 7 rfl) (by decide) (m_max Z a0 hw h0 (mem9 a1 a2 a3 a4 a5 a6 a7 q0 q1 q2 q3 z103 z102 z104 z105 z106 z107 z202 z203 z204 z205 z206 z207 z301 z302 z303 z304 z305 z306 z307 z401 z402 z403) z9035 (z202 + z103)) (argsL := [(.int z9035), (.int (z202 + z103))]) (rest := [(.int (1 : Int32)), (.ref a6)]) rfl (ps := [.int, .int]) (by decide +kernel) rfl rfl 2 rfl (by decide) (by decide) (by decide) (by decide) ?_
      rintro _ _ ⟨z9036, rfl, rfl, hz9036, gz9036⟩
      show Go Bmrg4_1 Z a0 h0 _ 0 0 (M4 a1 a2 a3 a4 a5 a6 a7 q0 q1 q2 q3 ((128 : Int32) + z103) ((128 : Int32) + z202) z301 z102 z202 z302 z103 z203 z303 z104 z204 z304 z105 z205 z305 z106 z206 z306 z107 z207 z307 z401 z402 z403) 179 #[.val (.ref a1), .val (.int (1 : Int32)), .val (.int (2 : Int32)), .val (.int (3 : Int32)), .val (.int (1 : Int32)), .val (.int (128 : Int32)), .val (.int (1 : Int32)), .val (.int (z202 + z103))] [(.int z9036), (.int (1 : Int32)), (.ref a6)]
      have kz9036 : z9036.toInt = z9035.toInt ∨ z9036.toInt = (z202 + z103).toInt := by rcases gz9036 with h | h <;> rw [h] <;> simp
      refine go_iastore 5 180 rfl d19_179 rfl rfl (by decide) (lbe rfl) ?_
      show Go Bmrg4_1 Z a0 h0 _ 0 0 (M4 a1 a2 a3 a4 a5 a6 a7 q0 q1 q2 q3 ((128 : Int32) + z103) ((128 : Int32) + z202) z9036 z102 z202 z302 z103 z203 z303 z104 z204 z304 z105 z205 z305 z106 z206 z306 z107 z207 z307 z401 z402 z403) 180 #[.val (.ref a1), .val (.int (1 : Int32)), .val (.int (2 : Int32)), .val (.int (3 : Int32)), .val (.int (1 : Int32)), .val (.int (128 : Int32)), .val (.int (1 : Int32)), .val (.int (z202 + z103))] []
      exact go_return d19_180 rfl rfl (by decide) (by decide) ⟨_, _, _, hl.merge hr (by omega) (by omega) (by omega) (by omega) (by omega) (by omega) (by omega) (by omega), rfl, rfl⟩
def Bmrg4_2 : Bdy := (⟨"com/example/clauseline/clauseline/service/TakenPieces", "merge", "(I)V"⟩, prog_101_method_9_code, 8, none, ({ frames := 2, cells := 0, slots := 0, locals := 27 } : Room))
theorem m_mrg4_2 (Z : State) (a0 : Array Value) (hw : ∀ d ∈ tables_1, d.before a0 Z = true) (h0 : Heap) (P : Fr1) (a1 a2 a3 a4 a5 a6 a7 : Addr) (q0 q1 q2 q3 : Int64) (z101 z201 z301 z102 z202 z302 z103 z203 z303 z104 z204 z304 z105 z205 z305 z106 z206 z306 z107 z207 z307 z401 z402 z403 : Int32) (hl : Sm P 0 64 z104.toInt z204.toInt z304.toInt) (hr : Sm P 64 128 z105.toInt z205.toInt z305.toInt) :
    Met Bmrg4_2 Z a0 h0 #[(.ref a1), (.int (2 : Int32))] (M4 a1 a2 a3 a4 a5 a6 a7 q0 q1 q2 q3 z101 z201 z301 z102 z202 z302 z103 z203 z303 z104 z204 z304 z105 z205 z305 z106 z206 z306 z107 z207 z307 z401 z402 z403) (fun v ds => ∃ z1 z2 z3 : Int32, Sm P 0 128 z1.toInt z2.toInt z3.toInt ∧ Ret none (M4 a1 a2 a3 a4 a5 a6 a7 q0 q1 q2 q3 z101 z201 z301 z1 z2 z3 z103 z203 z303 z104 z204 z304 z105 z205 z305 z106 z206 z306 z107 z207 z307 z401 z402 z403) v ds) := by
  refine Met.of pn19 (ls := #[.val (.ref a1), .val (.int (2 : Int32)), .unset, .unset, .unset, .unset, .unset, .unset]) (fun m => by first | (simp [entryFrame, mkF, argsToLocals, Value.category, Bmrg4_2]; done) | rfl) ?_
  show Go Bmrg4_2 Z a0 h0 _ 0 0 (M4 a1 a2 a3 a4 a5 a6 a7 q0 q1 q2 q3 z101 z201 z301 z102 z202 z302 z103 z203 z303 z104 z204 z304 z105 z205 z305 z106 z206 z306 z107 z207 z307 z401 z402 z403) 0 #[.val (.ref a1), .val (.int (2 : Int32)), .unset, .unset, .unset, .unset, .unset, .unset] []
  have a0_ := hl.f0; have a1_ := hl.f1; have a2_ := hl.l0; have a3_ := hl.l1; have a4_ := hl.m0; have a5_ := hl.m1
  have b0_ := hr.f0; have b1_ := hr.f1; have b2_ := hr.l0; have b3_ := hr.l1; have b4_ := hr.m0; have b5_ := hr.m1
  refine go_iconst (2 : Int32) 1 rfl d19_0 rfl ?_
  refine go_iloadN 2 rfl d19_1 rfl ?_
  refine go_imul 3 rfl d19_2 rfl ?_
  refine go_istoreN #[.val (.ref a1), .val (.int (2 : Int32)), .val (.int (4 : Int32)), .unset, .unset, .unset, .unset, .unset] 4 rfl d19_3 rfl rfl ?_
  refine go_iloadN 5 rfl d19_4 rfl ?_
  refine go_iconst (1 : Int32) 6 rfl d19_5 rfl ?_
  refine go_iadd 7 rfl d19_6 rfl ?_
  refine go_istoreN #[.val (.ref a1), .val (.int (2 : Int32)), .val (.int (4 : Int32)), .val (.int (5 : Int32)), .unset, .unset, .unset, .unset] 8 rfl d19_7 rfl rfl ?_
  refine go_aloadN 9 rfl d19_8 rfl rfl ?_
  refine go_iloadN 10 rfl d19_9 rfl ?_
  refine go_callP (host := "") 13 rfl d19_10 (Or.inl (wd hw 96 rfl)) (wd hw 97 rfl) (wd hw 98 rfl) (wd hw 9 rfl) (wd hw 10 rfl) (wd hw 99 rfl) (by decide) (Mo.exa (i := 0) rfl) (m_lb Z a0 hw h0 a1 a2 a3 a4 a5 a6 a7 [(.long q0), (.long q1), (.long q2), (.long q3)] [(.long (0 : Int64)), (.long (0 : Int64)), (.long (0 : Int64)), (.long (0 : Int64))] [(.int (0 : Int32)), (.int z101), (.int z102), (.int z103), (.int z104), (.int z105), (.int z106), (.int z107)] [(.int (0 : Int32)), (.int z201), (.int z202), (.int z203), (.int z204), (.int z205), (.int z206), (.int z207)] [(.int (0 : Int32)), (.int z301), (.int z302), (.int z303), (.int z304), (.int z305), (.int z306), (.int z307)] [(.int (0 : Int32)), (.int z401), (.int z402), (.int z403)] (5 : Int32) (4 : Int32) (0 : Int32) (by decide +kernel)) (argsL := [(.int (5 : Int32))]) (rest := []) rfl (ps := [.int]) (by decide +kernel) rfl rfl 0 rfl (by decide) (by decide) (by decide) (by decide) ?_
  rintro _ _ ⟨rfl, rfl⟩
  show Go Bmrg4_2 Z a0 h0 _ 0 0 (M4 a1 a2 a3 a4 a5 a6 a7 q0 q1 q2 q3 z101 z201 z301 z102 z202 z302 z103 z203 z303 z104 z204 z304 z105 z205 z305 z106 z206 z306 z107 z207 z307 z401 z402 z403) 13 #[.val (.ref a1), .val (.int (2 : Int32)), .val (.int (4 : Int32)), .val (.int (5 : Int32)), .unset, .unset, .unset, .unset] [(.int (0 : Int32))]
  refine go_istore #[.val (.ref a1), .val (.int (2 : Int32)), .val (.int (4 : Int32)), .val (.int (5 : Int32)), .val (.int (0 : Int32)), .unset, .unset, .unset] 15 rfl d19_13 rfl rfl ?_
  refine go_bipush (64 : Int32) 17 rfl d19_15 rfl ?_
  refine go_iload 19 rfl d19_17 rfl ?_
  refine go_ishl 20 rfl d19_19 rfl ?_
  refine go_istore #[.val (.ref a1), .val (.int (2 : Int32)), .val (.int (4 : Int32)), .val (.int (5 : Int32)), .val (.int (0 : Int32)), .val (.int (64 : Int32)), .unset, .unset] 22 rfl d19_20 rfl rfl ?_
  refine go_aloadN 23 rfl d19_22 rfl rfl ?_
  refine go_get 0 2 26 rfl d19_23 rfl rfl rfl (wd hw 32 rfl) ?_
  refine go_iloadN 27 rfl d19_26 rfl ?_
  refine go_iload 29 rfl d19_27 rfl ?_
  refine go_ishl 30 rfl d19_29 rfl ?_
  refine go_aloadN 31 rfl d19_30 rfl rfl ?_
  refine go_get 0 0 34 rfl d19_31 rfl rfl rfl (wd hw 27 rfl) ?_
  refine go_isub 35 rfl d19_34 rfl ?_
  refine go_laload 36 rfl d19_35 rfl (Mo.el (i := 2) rfl (by decide) rfl) ?_
  refine go_lconst (1 : Int64) 37 rfl d19_36 rfl ?_
  refine go_land 38 rfl d19_37 rfl ?_
  refine go_lconst (0 : Int64) 39 rfl d19_38 rfl ?_
  refine go_lcmp 40 rfl d19_39 rfl ?_
  refine go_if 47 43 rfl (by decide) rfl d19_40 rfl (fun (hc40 : (lcmpW ((0 : Int64) &&& (1 : Int64)) (0 : Int64)).toInt ≠ 0) => absurd hc40 (by decide)) (fun (hc40 : ¬ ((lcmpW ((0 : Int64) &&& (1 : Int64)) (0 : Int64)).toInt ≠ 0)) => ?_)
  refine go_iconst (1 : Int32) 44 rfl d19_43 rfl ?_
  refine go_goto 48 (by decide) rfl d19_44 ?_
  refine go_istore #[.val (.ref a1), .val (.int (2 : Int32)), .val (.int (4 : Int32)), .val (.int (5 : Int32)), .val (.int (0 : Int32)), .val (.int (64 : Int32)), .val (.int (1 : Int32)), .unset] 50 rfl d19_48 rfl rfl ?_
  refine go_aloadN 51 rfl d19_50 rfl rfl ?_
  refine go_get 0 3 54 rfl d19_51 rfl rfl rfl (wd hw 35 rfl) ?_
  refine go_iloadN 55 rfl d19_54 rfl ?_
  refine go_aloadN 56 rfl d19_55 rfl rfl ?_
  refine go_get 0 3 59 rfl d19_56 rfl rfl rfl (wd hw 35 rfl) ?_
  refine go_iloadN 60 rfl d19_59 rfl ?_
  refine go_iaload 61 rfl d19_60 rfl (Mo.el (i := 3) rfl (by decide) rfl) ?_
  refine go_iload 63 rfl d19_61 rfl ?_
  refine go_icmp 83 66 rfl (by decide) rfl d19_63 rfl (fun (hc63_36 : z104.toInt ≠ (64 : Int)) => ?_) (fun (hc63_36 : ¬ (z104.toInt ≠ (64 : Int))) => ?_)
  · refine go_aloadN 84 rfl d19_83 rfl rfl ?_
    refine go_get 0 3 87 rfl d19_84 rfl rfl rfl (wd hw 35 rfl) ?_
    refine go_iloadN 88 rfl d19_87 rfl ?_
    refine go_iaload 89 rfl d19_88 rfl (Mo.el (i := 3) rfl (by decide) rfl) ?_
    refine go_iastore 3 90 rfl d19_89 rfl rfl (by decide) (lbe rfl) ?_
    refine go_aloadN 91 rfl d19_90 rfl rfl ?_
    refine go_get 0 4 94 rfl d19_91 rfl rfl rfl (wd hw 37 rfl) ?_
    refine go_iloadN 95 rfl d19_94 rfl ?_
    refine go_aloadN 96 rfl d19_95 rfl rfl ?_
    refine go_get 0 4 99 rfl d19_96 rfl rfl rfl (wd hw 37 rfl) ?_
    refine go_iloadN 100 rfl d19_99 rfl ?_
    refine go_iaload 101 rfl d19_100 rfl (Mo.el (i := 4) rfl (by decide) rfl) ?_
    refine go_iload 103 rfl d19_101 rfl ?_
    refine go_icmp 123 106 rfl (by decide) rfl d19_103 rfl (fun (hc103_37 : z205.toInt ≠ (64 : Int)) => ?_) (fun (hc103_37 : ¬ (z205.toInt ≠ (64 : Int))) => ?_)
    · refine go_aloadN 124 rfl d19_123 rfl rfl ?_
      refine go_get 0 4 127 rfl d19_124 rfl rfl rfl (wd hw 37 rfl) ?_
      refine go_iloadN 128 rfl d19_127 rfl ?_
      refine go_iaload 129 rfl d19_128 rfl (Mo.el (i := 4) rfl (by decide) rfl) ?_
      refine go_iastore 4 130 rfl d19_129 rfl rfl (by decide) (lbe rfl) ?_
      refine go_iload 132 rfl d19_130 rfl ?_
      refine go_if 151 135 rfl (by decide) rfl d19_132 rfl (fun (hc132 : (1 : Int) = 0) => absurd hc132 (by decide)) (fun (hc132 : ¬ ((1 : Int) = 0)) => ?_)
      refine go_aloadN 136 rfl d19_135 rfl rfl ?_
      refine go_get 0 4 139 rfl d19_136 rfl rfl rfl (wd hw 37 rfl) ?_
      refine go_iloadN 140 rfl d19_139 rfl ?_
      refine go_iaload 141 rfl d19_140 rfl (Mo.el (i := 4) rfl (by decide) rfl) ?_
      refine go_aloadN 142 rfl d19_141 rfl rfl ?_
      refine go_get 0 3 145 rfl d19_142 rfl rfl rfl (wd hw 35 rfl) ?_
      refine go_iloadN 146 rfl d19_145 rfl ?_
      refine go_iaload 147 rfl d19_146 rfl (Mo.el (i := 3) rfl (by decide) rfl) ?_
      refine go_iadd 148 rfl d19_147 rfl ?_
      have fa1 : (z204 + z105).toInt = z204.toInt + z105.toInt := addE rfl rfl (by omega)
      refine go_goto 152 (by decide) rfl d19_148 ?_
      refine go_istore #[.val (.ref a1), .val (.int (2 : Int32)), .val (.int (4 : Int32)), .val (.int (5 : Int32)), .val (.int (0 : Int32)), .val (.int (64 : Int32)), .val (.int (1 : Int32)), .val (.int (z204 + z105))] 154 rfl d19_152 rfl rfl ?_
      refine go_aloadN 155 rfl d19_154 rfl rfl ?_
      refine go_get 0 5 158 rfl d19_155 rfl rfl rfl (wd hw 39 rfl) ?_
      refine go_iloadN 159 rfl d19_158 rfl ?_
      refine go_aloadN 160 rfl d19_159 rfl rfl ?_
      refine go_get 0 5 163 rfl d19_160 rfl rfl rfl (wd hw 39 rfl) ?_
      refine go_iloadN 164 rfl d19_163 rfl ?_
      refine go_iaload 165 rfl d19_164 rfl (Mo.el (i := 5) rfl (by decide) rfl) ?_
      refine go_aloadN 166 rfl d19_165 rfl rfl ?_
      refine go_get 0 5 169 rfl d19_166 rfl rfl rfl (wd hw 39 rfl) ?_
      refine go_iloadN 170 rfl d19_169 rfl ?_
      refine go_iaload 171 rfl d19_170 rfl (Mo.el (i := 5) rfl (by decide) rfl) ?_
      refine go_callS 174 rfl d19_171 (wd hw 17 rfl) (wd hw 6 rfl) (wd hw 3 rfl) (wd hw 7 rfl) (by decide) (m_max Z a0 hw h0 (mem10 a1 a2 a3 a4 a5 a6 a7 q0 q1 q2 q3 z101 z104 z103 z105 z106 z107 z201 z205 z203 z204 z206 z207 z301 z302 z303 z304 z305 z306 z307 z401 z402 z403) z304 z305) (argsL := [(.int z304), (.int z305)]) (rest := [(.int (2 : Int32)), (.ref a6)]) rfl (ps := [.int, .int]) (by decide +kernel) rfl rfl 2 rfl (by decide) (by decide) (by decide) (by decide) ?_
      rintro _ _ ⟨z9039, rfl, rfl, hz9039, gz9039⟩
      show Go Bmrg4_2 Z a0 h0 _ 0 0 (M4 a1 a2 a3 a4 a5 a6 a7 q0 q1 q2 q3 z101 z201 z301 z104 z205 z302 z103 z203 z303 z104 z204 z304 z105 z205 z305 z106 z206 z306 z107 z207 z307 z401 z402 z403) 174 #[.val (.ref a1), .val (.int (2 : Int32)), .val (.int (4 : Int32)), .val (.int (5 : Int32)), .val (.int (0 : Int32)), .val (.int (64 : Int32)), .val (.int (1 : Int32)), .val (.int (z204 + z105))] [(.int z9039), (.int (2 : Int32)), (.ref a6)]
      have kz9039 : z9039.toInt = z304.toInt ∨ z9039.toInt = z305.toInt := by rcases gz9039 with h | h <;> rw [h] <;> simp
      refine go_iload 176 rfl d19_174 rfl ?_
      refine go_callS 179 rfl d19_176 (wd hw 17 rfl) (wd hw 6 rfl) (wd hw 3 rfl) (wd hw 7 rfl) (by decide) (m_max Z a0 hw h0 (mem10 a1 a2 a3 a4 a5 a6 a7 q0 q1 q2 q3 z101 z104 z103 z105 z106 z107 z201 z205 z203 z204 z206 z207 z301 z302 z303 z304 z305 z306 z307 z401 z402 z403) z9039 (z204 + z105)) (argsL := [(.int z9039), (.int (z204 + z105))]) (rest := [(.int (2 : Int32)), (.ref a6)]) rfl (ps := [.int, .int]) (by decide +kernel) rfl rfl 2 rfl (by decide) (by decide) (by decide) (by decide) ?_
      rintro _ _ ⟨z9040, rfl, rfl, hz9040, gz9040⟩
      show Go Bmrg4_2 Z a0 h0 _ 0 0 (M4 a1 a2 a3 a4 a5 a6 a7 q0 q1 q2 q3 z101 z201 z301 z104 z205 z302 z103 z203 z303 z104 z204 z304 z105 z205 z305 z106 z206 z306 z107 z207 z307 z401 z402 z403) 179 #[.val (.ref a1), .val (.int (2 : Int32)), .val (.int (4 : Int32)), .val (.int (5 : Int32)), .val (.int (0 : Int32)), .val (.int (64 : Int32)), .val (.int (1 : Int32)), .val (.int (z204 + z105))] [(.int z9040), (.int (2 : Int32)), (.ref a6)]
      have kz9040 : z9040.toInt = z9039.toInt ∨ z9040.toInt = (z204 + z105).toInt := by rcases gz9040 with h | h <;> rw [h] <;> simp
      refine go_iastore 5 180 rfl d19_179 rfl rfl (by decide) (lbe rfl) ?_
      show Go Bmrg4_2 Z a0 h0 _ 0 0 (M4 a1 a2 a3 a4 a5 a6 a7 q0 q1 q2 q3 z101 z201 z301 z104 z205 z9040 z103 z203 z303 z104 z204 z304 z105 z205 z305 z106 z206 z306 z107 z207 z307 z401 z402 z403) 180 #[.val (.ref a1), .val (.int (2 : Int32)), .val (.int (4 : Int32)), .val (.int (5 : Int32)), .val (.int (0 : Int32)), .val (.int (64 : Int32)), .val (.int (1 : Int32)), .val (.int (z204 + z105))] []
      exact go_return d19_180 rfl rfl (by decide) (by decide) ⟨_, _, _, hl.merge hr (by omega) (by omega) (by omega) (by omega) (by omega) (by omega) (by omega) (by omega), rfl, rfl⟩
    · refine go_iload 108 rfl d19_106 rfl ?_
      refine go_if 123 111 rfl (by decide) rfl d19_108 rfl (fun (hc108 : (1 : Int) = 0) => absurd hc108 (by decide)) (fun (hc108 : ¬ ((1 : Int) = 0)) => ?_)
      refine go_iload 113 rfl d19_111 rfl ?_
      refine go_aloadN 114 rfl d19_113 rfl rfl ?_
      refine go_get 0 4 117 rfl d19_114 rfl rfl rfl (wd hw 37 rfl) ?_
      refine go_iloadN 118 rfl d19_117 rfl ?_
      refine go_iaload 119 rfl d19_118 rfl (Mo.el (i := 4) rfl (by decide) rfl) ?_
      refine go_iadd 120 rfl d19_119 rfl ?_
      have fa2 : ((64 : Int32) + z204).toInt = (64 : Int) + z204.toInt := addE rfl rfl (by omega)
      refine go_goto 129 (by decide) rfl d19_120 ?_
      refine go_iastore 4 130 rfl d19_129 rfl rfl (by decide) (lbe rfl) ?_
      refine go_iload 132 rfl d19_130 rfl ?_
      refine go_if 151 135 rfl (by decide) rfl d19_132 rfl (fun (hc132 : (1 : Int) = 0) => absurd hc132 (by decide)) (fun (hc132 : ¬ ((1 : Int) = 0)) => ?_)
      refine go_aloadN 136 rfl d19_135 rfl rfl ?_
      refine go_get 0 4 139 rfl d19_136 rfl rfl rfl (wd hw 37 rfl) ?_
      refine go_iloadN 140 rfl d19_139 rfl ?_
      refine go_iaload 141 rfl d19_140 rfl (Mo.el (i := 4) rfl (by decide) rfl) ?_
      refine go_aloadN 142 rfl d19_141 rfl rfl ?_
      refine go_get 0 3 145 rfl d19_142 rfl rfl rfl (wd hw 35 rfl) ?_
      refine go_iloadN 146 rfl d19_145 rfl ?_
      refine go_iaload 147 rfl d19_146 rfl (Mo.el (i := 3) rfl (by decide) rfl) ?_
      refine go_iadd 148 rfl d19_147 rfl ?_
      have fa3 : (z204 + z105).toInt = z204.toInt + z105.toInt := addE rfl rfl (by omega)
      refine go_goto 152 (by decide) rfl d19_148 ?_
      refine go_istore #[.val (.ref a1), .val (.int (2 : Int32)), .val (.int (4 : Int32)), .val (.int (5 : Int32)), .val (.int (0 : Int32)), .val (.int (64 : Int32)), .val (.int (1 : Int32)), .val (.int (z204 + z105))] 154 rfl d19_152 rfl rfl ?_
      refine go_aloadN 155 rfl d19_154 rfl rfl ?_
      refine go_get 0 5 158 rfl d19_155 rfl rfl rfl (wd hw 39 rfl) ?_
      refine go_iloadN 159 rfl d19_158 rfl ?_
      refine go_aloadN 160 rfl d19_159 rfl rfl ?_
      refine go_get 0 5 163 rfl d19_160 rfl rfl rfl (wd hw 39 rfl) ?_
      refine go_iloadN 164 rfl d19_163 rfl ?_
      refine go_iaload 165 rfl d19_164 rfl (Mo.el (i := 5) rfl (by decide) rfl) ?_
      refine go_aloadN 166 rfl d19_165 rfl rfl ?_
      refine go_get 0 5 169 rfl d19_166 rfl rfl rfl (wd hw 39 rfl) ?_
      refine go_iloadN 170 rfl d19_169 rfl ?_
      refine go_iaload 171 rfl d19_170 rfl (Mo.el (i := 5) rfl (by decide) rfl) ?_
      refine go_callS 174 rfl d19_171 (wd hw 17 rfl) (wd hw 6 rfl) (wd hw 3 rfl) (wd hw 7 rfl) (by decide) (m_max Z a0 hw h0 (mem11 a1 a2 a3 a4 a5 a6 a7 q0 q1 q2 q3 z101 z104 z103 z105 z106 z107 z201 z204 z203 z205 z206 z207 z301 z302 z303 z304 z305 z306 z307 z401 z402 z403) z304 z305) (argsL := [(.int z304), (.int z305)]) (rest := [(.int (2 : Int32)), (.ref a6)]) rfl (ps := [.int, .int]) (by decide +kernel) rfl rfl 2 rfl (by decide) (by decide) (by decide) (by decide) ?_
      rintro _ _ ⟨z9041, rfl, rfl, hz9041, gz9041⟩
      show Go Bmrg4_2 Z a0 h0 _ 0 0 (M4 a1 a2 a3 a4 a5 a6 a7 q0 q1 q2 q3 z101 z201 z301 z104 ((64 : Int32) + z204) z302 z103 z203 z303 z104 z204 z304 z105 z205 z305 z106 z206 z306 z107 z207 z307 z401 z402 z403) 174 #[.val (.ref a1), .val (.int (2 : Int32)), .val (.int (4 : Int32)), .val (.int (5 : Int32)), .val (.int (0 : Int32)), .val (.int (64 : Int32)), .val (.int (1 : Int32)), .val (.int (z204 + z105))] [(.int z9041), (.int (2 : Int32)), (.ref a6)]
      have kz9041 : z9041.toInt = z304.toInt ∨ z9041.toInt = z305.toInt := by rcases gz9041 with h | h <;> rw [h] <;> simp
      refine go_iload 176 rfl d19_174 rfl ?_
      refine go_callS 179 rfl d19_176 (wd hw 17 rfl) (wd hw 6 rfl) (wd hw 3 rfl) (wd hw 7 rfl) (by decide) (m_max Z a0 hw h0 (mem11 a1 a2 a3 a4 a5 a6 a7 q0 q1 q2 q3 z101 z104 z103 z105 z106 z107 z201 z204 z203 z205 z206 z207 z301 z302 z303 z304 z305 z306 z307 z401 z402 z403) z9041 (z204 + z105)) (argsL := [(.int z9041), (.int (z204 + z105))]) (rest := [(.int (2 : Int32)), (.ref a6)]) rfl (ps := [.int, .int]) (by decide +kernel) rfl rfl 2 rfl (by decide) (by decide) (by decide) (by decide) ?_
      rintro _ _ ⟨z9042, rfl, rfl, hz9042, gz9042⟩
      show Go Bmrg4_2 Z a0 h0 _ 0 0 (M4 a1 a2 a3 a4 a5 a6 a7 q0 q1 q2 q3 z101 z201 z301 z104 ((64 : Int32) + z204) z302 z103 z203 z303 z104 z204 z304 z105 z205 z305 z106 z206 z306 z107 z207 z307 z401 z402 z403) 179 #[.val (.ref a1), .val (.int (2 : Int32)), .val (.int (4 : Int32)), .val (.int (5 : Int32)), .val (.int (0 : Int32)), .val (.int (64 : Int32)), .val (.int (1 : Int32)), .val (.int (z204 + z105))] [(.int z9042), (.int (2 : Int32)), (.ref a6)]
      have kz9042 : z9042.toInt = z9041.toInt ∨ z9042.toInt = (z204 + z105).toInt := by rcases gz9042 with h | h <;> rw [h] <;> simp
      refine go_iastore 5 180 rfl d19_179 rfl rfl (by decide) (lbe rfl) ?_
      show Go Bmrg4_2 Z a0 h0 _ 0 0 (M4 a1 a2 a3 a4 a5 a6 a7 q0 q1 q2 q3 z101 z201 z301 z104 ((64 : Int32) + z204) z9042 z103 z203 z303 z104 z204 z304 z105 z205 z305 z106 z206 z306 z107 z207 z307 z401 z402 z403) 180 #[.val (.ref a1), .val (.int (2 : Int32)), .val (.int (4 : Int32)), .val (.int (5 : Int32)), .val (.int (0 : Int32)), .val (.int (64 : Int32)), .val (.int (1 : Int32)), .val (.int (z204 + z105))] []
      exact go_return d19_180 rfl rfl (by decide) (by decide) ⟨_, _, _, hl.merge hr (by omega) (by omega) (by omega) (by omega) (by omega) (by omega) (by omega) (by omega), rfl, rfl⟩
  · refine go_iload 68 rfl d19_66 rfl ?_
    refine go_if 83 71 rfl (by decide) rfl d19_68 rfl (fun (hc68 : (1 : Int) = 0) => absurd hc68 (by decide)) (fun (hc68 : ¬ ((1 : Int) = 0)) => ?_)
    refine go_iload 73 rfl d19_71 rfl ?_
    refine go_aloadN 74 rfl d19_73 rfl rfl ?_
    refine go_get 0 3 77 rfl d19_74 rfl rfl rfl (wd hw 35 rfl) ?_
    refine go_iloadN 78 rfl d19_77 rfl ?_
    refine go_iaload 79 rfl d19_78 rfl (Mo.el (i := 3) rfl (by decide) rfl) ?_
    refine go_iadd 80 rfl d19_79 rfl ?_
    have fa4 : ((64 : Int32) + z105).toInt = (64 : Int) + z105.toInt := addE rfl rfl (by omega)
    refine go_goto 89 (by decide) rfl d19_80 ?_
    refine go_iastore 3 90 rfl d19_89 rfl rfl (by decide) (lbe rfl) ?_
    refine go_aloadN 91 rfl d19_90 rfl rfl ?_
    refine go_get 0 4 94 rfl d19_91 rfl rfl rfl (wd hw 37 rfl) ?_
    refine go_iloadN 95 rfl d19_94 rfl ?_
    refine go_aloadN 96 rfl d19_95 rfl rfl ?_
    refine go_get 0 4 99 rfl d19_96 rfl rfl rfl (wd hw 37 rfl) ?_
    refine go_iloadN 100 rfl d19_99 rfl ?_
    refine go_iaload 101 rfl d19_100 rfl (Mo.el (i := 4) rfl (by decide) rfl) ?_
    refine go_iload 103 rfl d19_101 rfl ?_
    refine go_icmp 123 106 rfl (by decide) rfl d19_103 rfl (fun (hc103_42 : z205.toInt ≠ (64 : Int)) => ?_) (fun (hc103_42 : ¬ (z205.toInt ≠ (64 : Int))) => ?_)
    · refine go_aloadN 124 rfl d19_123 rfl rfl ?_
      refine go_get 0 4 127 rfl d19_124 rfl rfl rfl (wd hw 37 rfl) ?_
      refine go_iloadN 128 rfl d19_127 rfl ?_
      refine go_iaload 129 rfl d19_128 rfl (Mo.el (i := 4) rfl (by decide) rfl) ?_
      refine go_iastore 4 130 rfl d19_129 rfl rfl (by decide) (lbe rfl) ?_
      refine go_iload 132 rfl d19_130 rfl ?_
      refine go_if 151 135 rfl (by decide) rfl d19_132 rfl (fun (hc132 : (1 : Int) = 0) => absurd hc132 (by decide)) (fun (hc132 : ¬ ((1 : Int) = 0)) => ?_)
      refine go_aloadN 136 rfl d19_135 rfl rfl ?_
      refine go_get 0 4 139 rfl d19_136 rfl rfl rfl (wd hw 37 rfl) ?_
      refine go_iloadN 140 rfl d19_139 rfl ?_
      refine go_iaload 141 rfl d19_140 rfl (Mo.el (i := 4) rfl (by decide) rfl) ?_
      refine go_aloadN 142 rfl d19_141 rfl rfl ?_
      refine go_get 0 3 145 rfl d19_142 rfl rfl rfl (wd hw 35 rfl) ?_
      refine go_iloadN 146 rfl d19_145 rfl ?_
      refine go_iaload 147 rfl d19_146 rfl (Mo.el (i := 3) rfl (by decide) rfl) ?_
      refine go_iadd 148 rfl d19_147 rfl ?_
      have fa5 : (z204 + z105).toInt = z204.toInt + z105.toInt := addE rfl rfl (by omega)
      refine go_goto 152 (by decide) rfl d19_148 ?_
      refine go_istore #[.val (.ref a1), .val (.int (2 : Int32)), .val (.int (4 : Int32)), .val (.int (5 : Int32)), .val (.int (0 : Int32)), .val (.int (64 : Int32)), .val (.int (1 : Int32)), .val (.int (z204 + z105))] 154 rfl d19_152 rfl rfl ?_
      refine go_aloadN 155 rfl d19_154 rfl rfl ?_
      refine go_get 0 5 158 rfl d19_155 rfl rfl rfl (wd hw 39 rfl) ?_
      refine go_iloadN 159 rfl d19_158 rfl ?_
      refine go_aloadN 160 rfl d19_159 rfl rfl ?_
      refine go_get 0 5 163 rfl d19_160 rfl rfl rfl (wd hw 39 rfl) ?_
      refine go_iloadN 164 rfl d19_163 rfl ?_
      refine go_iaload 165 rfl d19_164 rfl (Mo.el (i := 5) rfl (by decide) rfl) ?_
      refine go_aloadN 166 rfl d19_165 rfl rfl ?_
      refine go_get 0 5 169 rfl d19_166 rfl rfl rfl (wd hw 39 rfl) ?_
      refine go_iloadN 170 rfl d19_169 rfl ?_
      refine go_iaload 171 rfl d19_170 rfl (Mo.el (i := 5) rfl (by decide) rfl) ?_
      refine go_callS 174 rfl d19_171 (wd hw 17 rfl) (wd hw 6 rfl) (wd hw 3 rfl) (wd hw 7 rfl) (by decide) (m_max Z a0 hw h0 (mem12 a1 a2 a3 a4 a5 a6 a7 q0 q1 q2 q3 z101 z105 z103 z104 z106 z107 z201 z205 z203 z204 z206 z207 z301 z302 z303 z304 z305 z306 z307 z401 z402 z403) z304 z305) (argsL := [(.int z304), (.int z305)]) (rest := [(.int (2 : Int32)), (.ref a6)]) rfl (ps := [.int, .int]) (by decide +kernel) rfl rfl 2 rfl (by decide) (by decide) (by decide) (by decide) ?_
      rintro _ _ ⟨z9044, rfl, rfl, hz9044, gz9044⟩
      show Go Bmrg4_2 Z a0 h0 _ 0 0 (M4 a1 a2 a3 a4 a5 a6 a7 q0 q1 q2 q3 z101 z201 z301 ((64 : Int32) + z105) z205 z302 z103 z203 z303 z104 z204 z304 z105 z205 z305 z106 z206 z306 z107 z207 z307 z401 z402 z403) 174 #[.val (.ref a1), .val (.int (2 : Int32)), .val (.int (4 : Int32)), .val (.int (5 : Int32)), .val (.int (0 : Int32)), .val (.int (64 : Int32)), .val (.int (1 : Int32)), .val (.int (z204 + z105))] [(.int z9044), (.int (2 : Int32)), (.ref a6)]
      have kz9044 : z9044.toInt = z304.toInt ∨ z9044.toInt = z305.toInt := by rcases gz9044 with h | h <;> rw [h] <;> simp
      refine go_iload 176 rfl d19_174 rfl ?_
      refine go_callS 179 rfl d19_176 (wd hw 17 rfl) (wd hw 6 rfl) (wd hw 3 rfl) (wd hw 7 rfl) (by decide) (m_max Z a0 hw h0 (mem12 a1 a2 a3 a4 a5 a6 a7 q0 q1 q2 q3 z101 z105 z103 z104 z106 z107 z201 z205 z203 z204 z206 z207 z301 z302 z303 z304 z305 z306 z307 z401 z402 z403) z9044 (z204 + z105)) (argsL := [(.int z9044), (.int (z204 + z105))]) (rest := [(.int (2 : Int32)), (.ref a6)]) rfl (ps := [.int, .int]) (by decide +kernel) rfl rfl 2 rfl (by decide) (by decide) (by decide) (by decide) ?_
      rintro _ _ ⟨z9045, rfl, rfl, hz9045, gz9045⟩
      show Go Bmrg4_2 Z a0 h0 _ 0 0 (M4 a1 a2 a3 a4 a5 a6 a7 q0 q1 q2 q3 z101 z201 z301 ((64 : Int32) + z105) z205 z302 z103 z203 z303 z104 z204 z304 z105 z205 z305 z106 z206 z306 z107 z207 z307 z401 z402 z403) 179 #[.val (.ref a1), .val (.int (2 : Int32)), .val (.int (4 : Int32)), .val (.int (5 : Int32)), .val (.int (0 : Int32)), .val (.int (64 : Int32)), .val (.int (1 : Int32)), .val (.int (z204 + z105))] [(.int z9045), (.int (2 : Int32)), (.ref a6)]
      have kz9045 : z9045.toInt = z9044.toInt ∨ z9045.toInt = (z204 + z105).toInt := by rcases gz9045 with h | h <;> rw [h] <;> simp
      refine go_iastore 5 180 rfl d19_179 rfl rfl (by decide) (lbe rfl) ?_
      show Go Bmrg4_2 Z a0 h0 _ 0 0 (M4 a1 a2 a3 a4 a5 a6 a7 q0 q1 q2 q3 z101 z201 z301 ((64 : Int32) + z105) z205 z9045 z103 z203 z303 z104 z204 z304 z105 z205 z305 z106 z206 z306 z107 z207 z307 z401 z402 z403) 180 #[.val (.ref a1), .val (.int (2 : Int32)), .val (.int (4 : Int32)), .val (.int (5 : Int32)), .val (.int (0 : Int32)), .val (.int (64 : Int32)), .val (.int (1 : Int32)), .val (.int (z204 + z105))] []
      exact go_return d19_180 rfl rfl (by decide) (by decide) ⟨_, _, _, hl.merge hr (by omega) (by omega) (by omega) (by omega) (by omega) (by omega) (by omega) (by omega), rfl, rfl⟩
    · refine go_iload 108 rfl d19_106 rfl ?_
      refine go_if 123 111 rfl (by decide) rfl d19_108 rfl (fun (hc108 : (1 : Int) = 0) => absurd hc108 (by decide)) (fun (hc108 : ¬ ((1 : Int) = 0)) => ?_)
      refine go_iload 113 rfl d19_111 rfl ?_
      refine go_aloadN 114 rfl d19_113 rfl rfl ?_
      refine go_get 0 4 117 rfl d19_114 rfl rfl rfl (wd hw 37 rfl) ?_
      refine go_iloadN 118 rfl d19_117 rfl ?_
      refine go_iaload 119 rfl d19_118 rfl (Mo.el (i := 4) rfl (by decide) rfl) ?_
      refine go_iadd 120 rfl d19_119 rfl ?_
      have fa6 : ((64 : Int32) + z204).toInt = (64 : Int) + z204.toInt := addE rfl rfl (by omega)
      refine go_goto 129 (by decide) rfl d19_120 ?_
      refine go_iastore 4 130 rfl d19_129 rfl rfl (by decide) (lbe rfl) ?_
      refine go_iload 132 rfl d19_130 rfl ?_
      refine go_if 151 135 rfl (by decide) rfl d19_132 rfl (fun (hc132 : (1 : Int) = 0) => absurd hc132 (by decide)) (fun (hc132 : ¬ ((1 : Int) = 0)) => ?_)
      refine go_aloadN 136 rfl d19_135 rfl rfl ?_
      refine go_get 0 4 139 rfl d19_136 rfl rfl rfl (wd hw 37 rfl) ?_
      refine go_iloadN 140 rfl d19_139 rfl ?_
      refine go_iaload 141 rfl d19_140 rfl (Mo.el (i := 4) rfl (by decide) rfl) ?_
      refine go_aloadN 142 rfl d19_141 rfl rfl ?_
      refine go_get 0 3 145 rfl d19_142 rfl rfl rfl (wd hw 35 rfl) ?_
      refine go_iloadN 146 rfl d19_145 rfl ?_
      refine go_iaload 147 rfl d19_146 rfl (Mo.el (i := 3) rfl (by decide) rfl) ?_
      refine go_iadd 148 rfl d19_147 rfl ?_
      have fa7 : (z204 + z105).toInt = z204.toInt + z105.toInt := addE rfl rfl (by omega)
      refine go_goto 152 (by decide) rfl d19_148 ?_
      refine go_istore #[.val (.ref a1), .val (.int (2 : Int32)), .val (.int (4 : Int32)), .val (.int (5 : Int32)), .val (.int (0 : Int32)), .val (.int (64 : Int32)), .val (.int (1 : Int32)), .val (.int (z204 + z105))] 154 rfl d19_152 rfl rfl ?_
      refine go_aloadN 155 rfl d19_154 rfl rfl ?_
      refine go_get 0 5 158 rfl d19_155 rfl rfl rfl (wd hw 39 rfl) ?_
      refine go_iloadN 159 rfl d19_158 rfl ?_
      refine go_aloadN 160 rfl d19_159 rfl rfl ?_
      refine go_get 0 5 163 rfl d19_160 rfl rfl rfl (wd hw 39 rfl) ?_
      refine go_iloadN 164 rfl d19_163 rfl ?_
      refine go_iaload 165 rfl d19_164 rfl (Mo.el (i := 5) rfl (by decide) rfl) ?_
      refine go_aloadN 166 rfl d19_165 rfl rfl ?_
      refine go_get 0 5 169 rfl d19_166 rfl rfl rfl (wd hw 39 rfl) ?_
      refine go_iloadN 170 rfl d19_169 rfl ?_
      refine go_iaload 171 rfl d19_170 rfl (Mo.el (i := 5) rfl (by decide) rfl) ?_
      refine go_callS 174 rfl d19_171 (wd hw 17 rfl) (wd hw 6 rfl) (wd hw 3 rfl) (wd hw 7 rfl) (by decide) (m_max Z a0 hw h0 (mem13 a1 a2 a3 a4 a5 a6 a7 q0 q1 q2 q3 z101 z105 z103 z104 z106 z107 z201 z204 z203 z205 z206 z207 z301 z302 z303 z304 z305 z306 z307 z401 z402 z403) z304 z305) (argsL := [(.int z304), (.int z305)]) (rest := [(.int (2 : Int32)), (.ref a6)]) rfl (ps := [.int, .int]) (by decide +kernel) rfl rfl 2 rfl (by decide) (by decide) (by decide) (by decide) ?_
      rintro _ _ ⟨z9046, rfl, rfl, hz9046, gz9046⟩
      show Go Bmrg4_2 Z a0 h0 _ 0 0 (M4 a1 a2 a3 a4 a5 a6 a7 q0 q1 q2 q3 z101 z201 z301 ((64 : Int32) + z105) ((64 : Int32) + z204) z302 z103 z203 z303 z104 z204 z304 z105 z205 z305 z106 z206 z306 z107 z207 z307 z401 z402 z403) 174 #[.val (.ref a1), .val (.int (2 : Int32)), .val (.int (4 : Int32)), .val (.int (5 : Int32)), .val (.int (0 : Int32)), .val (.int (64 : Int32)), .val (.int (1 : Int32)), .val (.int (z204 + z105))] [(.int z9046), (.int (2 : Int32)), (.ref a6)]
      have kz9046 : z9046.toInt = z304.toInt ∨ z9046.toInt = z305.toInt := by rcases gz9046 with h | h <;> rw [h] <;> simp
      refine go_iload 176 rfl d19_174 rfl ?_
      refine go_callS 179 rfl d19_176 (wd hw 17 rfl) (wd hw 6 rfl) (wd hw 3 rfl) (wd hw 7 rfl) (by decide) (m_max Z a0 hw h0 (mem13 a1 a2 a3 a4 a5 a6 a7 q0 q1 q2 q3 z101 z105 z103 z104 z106 z107 z201 z204 z203 z205 z206 z207 z301 z302 z303 z304 z305 z306 z307 z401 z402 z403) z9046 (z204 + z105)) (argsL := [(.int z9046), (.int (z204 + z105))]) (rest := [(.int (2 : Int32)), (.ref a6)]) rfl (ps := [.int, .int]) (by decide +kernel) rfl rfl 2 rfl (by decide) (by decide) (by decide) (by decide) ?_
      rintro _ _ ⟨z9047, rfl, rfl, hz9047, gz9047⟩
      show Go Bmrg4_2 Z a0 h0 _ 0 0 (M4 a1 a2 a3 a4 a5 a6 a7 q0 q1 q2 q3 z101 z201 z301 ((64 : Int32) + z105) ((64 : Int32) + z204) z302 z103 z203 z303 z104 z204 z304 z105 z205 z305 z106 z206 z306 z107 z207 z307 z401 z402 z403) 179 #[.val (.ref a1), .val (.int (2 : Int32)), .val (.int (4 : Int32)), .val (.int (5 : Int32)), .val (.int (0 : Int32)), .val (.int (64 : Int32)), .val (.int (1 : Int32)), .val (.int (z204 + z105))] [(.int z9047), (.int (2 : Int32)), (.ref a6)]
      have kz9047 : z9047.toInt = z9046.toInt ∨ z9047.toInt = (z204 + z105).toInt := by rcases gz9047 with h | h <;> rw [h] <;> simp
      refine go_iastore 5 180 rfl d19_179 rfl rfl (by decide) (lbe rfl) ?_
      show Go Bmrg4_2 Z a0 h0 _ 0 0 (M4 a1 a2 a3 a4 a5 a6 a7 q0 q1 q2 q3 z101 z201 z301 ((64 : Int32) + z105) ((64 : Int32) + z204) z9047 z103 z203 z303 z104 z204 z304 z105 z205 z305 z106 z206 z306 z107 z207 z307 z401 z402 z403) 180 #[.val (.ref a1), .val (.int (2 : Int32)), .val (.int (4 : Int32)), .val (.int (5 : Int32)), .val (.int (0 : Int32)), .val (.int (64 : Int32)), .val (.int (1 : Int32)), .val (.int (z204 + z105))] []
      exact go_return d19_180 rfl rfl (by decide) (by decide) ⟨_, _, _, hl.merge hr (by omega) (by omega) (by omega) (by omega) (by omega) (by omega) (by omega) (by omega), rfl, rfl⟩
def Bmrg4_3 : Bdy := (⟨"com/example/clauseline/clauseline/service/TakenPieces", "merge", "(I)V"⟩, prog_101_method_9_code, 8, none, ({ frames := 2, cells := 0, slots := 0, locals := 27 } : Room))
theorem m_mrg4_3 (Z : State) (a0 : Array Value) (hw : ∀ d ∈ tables_1, d.before a0 Z = true) (h0 : Heap) (P : Fr1) (a1 a2 a3 a4 a5 a6 a7 : Addr) (q0 q1 q2 q3 : Int64) (z101 z201 z301 z102 z202 z302 z103 z203 z303 z104 z204 z304 z105 z205 z305 z106 z206 z306 z107 z207 z307 z401 z402 z403 : Int32) (hl : Sm P 128 192 z106.toInt z206.toInt z306.toInt) (hr : Sm P 192 256 z107.toInt z207.toInt z307.toInt) :
    Met Bmrg4_3 Z a0 h0 #[(.ref a1), (.int (3 : Int32))] (M4 a1 a2 a3 a4 a5 a6 a7 q0 q1 q2 q3 z101 z201 z301 z102 z202 z302 z103 z203 z303 z104 z204 z304 z105 z205 z305 z106 z206 z306 z107 z207 z307 z401 z402 z403) (fun v ds => ∃ z1 z2 z3 : Int32, Sm P 128 256 z1.toInt z2.toInt z3.toInt ∧ Ret none (M4 a1 a2 a3 a4 a5 a6 a7 q0 q1 q2 q3 z101 z201 z301 z102 z202 z302 z1 z2 z3 z104 z204 z304 z105 z205 z305 z106 z206 z306 z107 z207 z307 z401 z402 z403) v ds) := by
  refine Met.of pn19 (ls := #[.val (.ref a1), .val (.int (3 : Int32)), .unset, .unset, .unset, .unset, .unset, .unset]) (fun m => by first | (simp [entryFrame, mkF, argsToLocals, Value.category, Bmrg4_3]; done) | rfl) ?_
  show Go Bmrg4_3 Z a0 h0 _ 0 0 (M4 a1 a2 a3 a4 a5 a6 a7 q0 q1 q2 q3 z101 z201 z301 z102 z202 z302 z103 z203 z303 z104 z204 z304 z105 z205 z305 z106 z206 z306 z107 z207 z307 z401 z402 z403) 0 #[.val (.ref a1), .val (.int (3 : Int32)), .unset, .unset, .unset, .unset, .unset, .unset] []
  have a0_ := hl.f0; have a1_ := hl.f1; have a2_ := hl.l0; have a3_ := hl.l1; have a4_ := hl.m0; have a5_ := hl.m1
  have b0_ := hr.f0; have b1_ := hr.f1; have b2_ := hr.l0; have b3_ := hr.l1; have b4_ := hr.m0; have b5_ := hr.m1
  refine go_iconst (2 : Int32) 1 rfl d19_0 rfl ?_
  refine go_iloadN 2 rfl d19_1 rfl ?_
  refine go_imul 3 rfl d19_2 rfl ?_
  refine go_istoreN #[.val (.ref a1), .val (.int (3 : Int32)), .val (.int (6 : Int32)), .unset, .unset, .unset, .unset, .unset] 4 rfl d19_3 rfl rfl ?_
  refine go_iloadN 5 rfl d19_4 rfl ?_
  refine go_iconst (1 : Int32) 6 rfl d19_5 rfl ?_
  refine go_iadd 7 rfl d19_6 rfl ?_
  refine go_istoreN #[.val (.ref a1), .val (.int (3 : Int32)), .val (.int (6 : Int32)), .val (.int (7 : Int32)), .unset, .unset, .unset, .unset] 8 rfl d19_7 rfl rfl ?_
  refine go_aloadN 9 rfl d19_8 rfl rfl ?_
  refine go_iloadN 10 rfl d19_9 rfl ?_
  refine go_callP (host := "") 13 rfl d19_10 (Or.inl (wd hw 96 rfl)) (wd hw 97 rfl) (wd hw 98 rfl) (wd hw 9 rfl) (wd hw 10 rfl) (wd hw 99 rfl) (by decide) (Mo.exa (i := 0) rfl) (m_lb Z a0 hw h0 a1 a2 a3 a4 a5 a6 a7 [(.long q0), (.long q1), (.long q2), (.long q3)] [(.long (0 : Int64)), (.long (0 : Int64)), (.long (0 : Int64)), (.long (0 : Int64))] [(.int (0 : Int32)), (.int z101), (.int z102), (.int z103), (.int z104), (.int z105), (.int z106), (.int z107)] [(.int (0 : Int32)), (.int z201), (.int z202), (.int z203), (.int z204), (.int z205), (.int z206), (.int z207)] [(.int (0 : Int32)), (.int z301), (.int z302), (.int z303), (.int z304), (.int z305), (.int z306), (.int z307)] [(.int (0 : Int32)), (.int z401), (.int z402), (.int z403)] (7 : Int32) (4 : Int32) (0 : Int32) (by decide +kernel)) (argsL := [(.int (7 : Int32))]) (rest := []) rfl (ps := [.int]) (by decide +kernel) rfl rfl 0 rfl (by decide) (by decide) (by decide) (by decide) ?_
  rintro _ _ ⟨rfl, rfl⟩
  show Go Bmrg4_3 Z a0 h0 _ 0 0 (M4 a1 a2 a3 a4 a5 a6 a7 q0 q1 q2 q3 z101 z201 z301 z102 z202 z302 z103 z203 z303 z104 z204 z304 z105 z205 z305 z106 z206 z306 z107 z207 z307 z401 z402 z403) 13 #[.val (.ref a1), .val (.int (3 : Int32)), .val (.int (6 : Int32)), .val (.int (7 : Int32)), .unset, .unset, .unset, .unset] [(.int (0 : Int32))]
  refine go_istore #[.val (.ref a1), .val (.int (3 : Int32)), .val (.int (6 : Int32)), .val (.int (7 : Int32)), .val (.int (0 : Int32)), .unset, .unset, .unset] 15 rfl d19_13 rfl rfl ?_
  refine go_bipush (64 : Int32) 17 rfl d19_15 rfl ?_
  refine go_iload 19 rfl d19_17 rfl ?_
  refine go_ishl 20 rfl d19_19 rfl ?_
  refine go_istore #[.val (.ref a1), .val (.int (3 : Int32)), .val (.int (6 : Int32)), .val (.int (7 : Int32)), .val (.int (0 : Int32)), .val (.int (64 : Int32)), .unset, .unset] 22 rfl d19_20 rfl rfl ?_
  refine go_aloadN 23 rfl d19_22 rfl rfl ?_
  refine go_get 0 2 26 rfl d19_23 rfl rfl rfl (wd hw 32 rfl) ?_
  refine go_iloadN 27 rfl d19_26 rfl ?_
  refine go_iload 29 rfl d19_27 rfl ?_
  refine go_ishl 30 rfl d19_29 rfl ?_
  refine go_aloadN 31 rfl d19_30 rfl rfl ?_
  refine go_get 0 0 34 rfl d19_31 rfl rfl rfl (wd hw 27 rfl) ?_
  refine go_isub 35 rfl d19_34 rfl ?_
  refine go_laload 36 rfl d19_35 rfl (Mo.el (i := 2) rfl (by decide) rfl) ?_
  refine go_lconst (1 : Int64) 37 rfl d19_36 rfl ?_
  refine go_land 38 rfl d19_37 rfl ?_
  refine go_lconst (0 : Int64) 39 rfl d19_38 rfl ?_
  refine go_lcmp 40 rfl d19_39 rfl ?_
  refine go_if 47 43 rfl (by decide) rfl d19_40 rfl (fun (hc40 : (lcmpW ((0 : Int64) &&& (1 : Int64)) (0 : Int64)).toInt ≠ 0) => absurd hc40 (by decide)) (fun (hc40 : ¬ ((lcmpW ((0 : Int64) &&& (1 : Int64)) (0 : Int64)).toInt ≠ 0)) => ?_)
  refine go_iconst (1 : Int32) 44 rfl d19_43 rfl ?_
  refine go_goto 48 (by decide) rfl d19_44 ?_
  refine go_istore #[.val (.ref a1), .val (.int (3 : Int32)), .val (.int (6 : Int32)), .val (.int (7 : Int32)), .val (.int (0 : Int32)), .val (.int (64 : Int32)), .val (.int (1 : Int32)), .unset] 50 rfl d19_48 rfl rfl ?_
  refine go_aloadN 51 rfl d19_50 rfl rfl ?_
  refine go_get 0 3 54 rfl d19_51 rfl rfl rfl (wd hw 35 rfl) ?_
  refine go_iloadN 55 rfl d19_54 rfl ?_
  refine go_aloadN 56 rfl d19_55 rfl rfl ?_
  refine go_get 0 3 59 rfl d19_56 rfl rfl rfl (wd hw 35 rfl) ?_
  refine go_iloadN 60 rfl d19_59 rfl ?_
  refine go_iaload 61 rfl d19_60 rfl (Mo.el (i := 3) rfl (by decide) rfl) ?_
  refine go_iload 63 rfl d19_61 rfl ?_
  refine go_icmp 83 66 rfl (by decide) rfl d19_63 rfl (fun (hc63_47 : z106.toInt ≠ (64 : Int)) => ?_) (fun (hc63_47 : ¬ (z106.toInt ≠ (64 : Int))) => ?_)
  · refine go_aloadN 84 rfl d19_83 rfl rfl ?_
    refine go_get 0 3 87 rfl d19_84 rfl rfl rfl (wd hw 35 rfl) ?_
    refine go_iloadN 88 rfl d19_87 rfl ?_
    refine go_iaload 89 rfl d19_88 rfl (Mo.el (i := 3) rfl (by decide) rfl) ?_
    refine go_iastore 3 90 rfl d19_89 rfl rfl (by decide) (lbe rfl) ?_
    refine go_aloadN 91 rfl d19_90 rfl rfl ?_
    refine go_get 0 4 94 rfl d19_91 rfl rfl rfl (wd hw 37 rfl) ?_
    refine go_iloadN 95 rfl d19_94 rfl ?_
    refine go_aloadN 96 rfl d19_95 rfl rfl ?_
    refine go_get 0 4 99 rfl d19_96 rfl rfl rfl (wd hw 37 rfl) ?_
    refine go_iloadN 100 rfl d19_99 rfl ?_
    refine go_iaload 101 rfl d19_100 rfl (Mo.el (i := 4) rfl (by decide) rfl) ?_
    refine go_iload 103 rfl d19_101 rfl ?_
    refine go_icmp 123 106 rfl (by decide) rfl d19_103 rfl (fun (hc103_48 : z207.toInt ≠ (64 : Int)) => ?_) (fun (hc103_48 : ¬ (z207.toInt ≠ (64 : Int))) => ?_)
    · refine go_aloadN 124 rfl d19_123 rfl rfl ?_
      refine go_get 0 4 127 rfl d19_124 rfl rfl rfl (wd hw 37 rfl) ?_
      refine go_iloadN 128 rfl d19_127 rfl ?_
      refine go_iaload 129 rfl d19_128 rfl (Mo.el (i := 4) rfl (by decide) rfl) ?_
      refine go_iastore 4 130 rfl d19_129 rfl rfl (by decide) (lbe rfl) ?_
      refine go_iload 132 rfl d19_130 rfl ?_
      refine go_if 151 135 rfl (by decide) rfl d19_132 rfl (fun (hc132 : (1 : Int) = 0) => absurd hc132 (by decide)) (fun (hc132 : ¬ ((1 : Int) = 0)) => ?_)
      refine go_aloadN 136 rfl d19_135 rfl rfl ?_
      refine go_get 0 4 139 rfl d19_136 rfl rfl rfl (wd hw 37 rfl) ?_
      refine go_iloadN 140 rfl d19_139 rfl ?_
      refine go_iaload 141 rfl d19_140 rfl (Mo.el (i := 4) rfl (by decide) rfl) ?_
      refine go_aloadN 142 rfl d19_141 rfl rfl ?_
      refine go_get 0 3 145 rfl d19_142 rfl rfl rfl (wd hw 35 rfl) ?_
      refine go_iloadN 146 rfl d19_145 rfl ?_
      refine go_iaload 147 rfl d19_146 rfl (Mo.el (i := 3) rfl (by decide) rfl) ?_
      refine go_iadd 148 rfl d19_147 rfl ?_
      have fa1 : (z206 + z107).toInt = z206.toInt + z107.toInt := addE rfl rfl (by omega)
      refine go_goto 152 (by decide) rfl d19_148 ?_
      refine go_istore #[.val (.ref a1), .val (.int (3 : Int32)), .val (.int (6 : Int32)), .val (.int (7 : Int32)), .val (.int (0 : Int32)), .val (.int (64 : Int32)), .val (.int (1 : Int32)), .val (.int (z206 + z107))] 154 rfl d19_152 rfl rfl ?_
      refine go_aloadN 155 rfl d19_154 rfl rfl ?_
      refine go_get 0 5 158 rfl d19_155 rfl rfl rfl (wd hw 39 rfl) ?_
      refine go_iloadN 159 rfl d19_158 rfl ?_
      refine go_aloadN 160 rfl d19_159 rfl rfl ?_
      refine go_get 0 5 163 rfl d19_160 rfl rfl rfl (wd hw 39 rfl) ?_
      refine go_iloadN 164 rfl d19_163 rfl ?_
      refine go_iaload 165 rfl d19_164 rfl (Mo.el (i := 5) rfl (by decide) rfl) ?_
      refine go_aloadN 166 rfl d19_165 rfl rfl ?_
      refine go_get 0 5 169 rfl d19_166 rfl rfl rfl (wd hw 39 rfl) ?_
      refine go_iloadN 170 rfl d19_169 rfl ?_
      refine go_iaload 171 rfl d19_170 rfl (Mo.el (i := 5) rfl (by decide) rfl) ?_
      refine go_callS 174 rfl d19_171 (wd hw 17 rfl) (wd hw 6 rfl) (wd hw 3 rfl) (wd hw 7 rfl) (by decide) (m_max Z a0 hw h0 (mem14 a1 a2 a3 a4 a5 a6 a7 q0 q1 q2 q3 z101 z102 z106 z104 z105 z107 z201 z202 z207 z204 z205 z206 z301 z302 z303 z304 z305 z306 z307 z401 z402 z403) z306 z307) (argsL := [(.int z306), (.int z307)]) (rest := [(.int (3 : Int32)), (.ref a6)]) rfl (ps := [.int, .int]) (by decide +kernel) rfl rfl 2 rfl (by decide) (by decide) (by decide) (by decide) ?_
      rintro _ _ ⟨z9050, rfl, rfl, hz9050, gz9050⟩
      show Go Bmrg4_3 Z a0 h0 _ 0 0 (M4 a1 a2 a3 a4 a5 a6 a7 q0 q1 q2 q3 z101 z201 z301 z102 z202 z302 z106 z207 z303 z104 z204 z304 z105 z205 z305 z106 z206 z306 z107 z207 z307 z401 z402 z403) 174 #[.val (.ref a1), .val (.int (3 : Int32)), .val (.int (6 : Int32)), .val (.int (7 : Int32)), .val (.int (0 : Int32)), .val (.int (64 : Int32)), .val (.int (1 : Int32)), .val (.int (z206 + z107))] [(.int z9050), (.int (3 : Int32)), (.ref a6)]
      have kz9050 : z9050.toInt = z306.toInt ∨ z9050.toInt = z307.toInt := by rcases gz9050 with h | h <;> rw [h] <;> simp
      refine go_iload 176 rfl d19_174 rfl ?_
      refine go_callS 179 rfl d19_176 (wd hw 17 rfl) (wd hw 6 rfl) (wd hw 3 rfl) (wd hw 7 rfl) (by decide) (m_max Z a0 hw h0 (mem14 a1 a2 a3 a4 a5 a6 a7 q0 q1 q2 q3 z101 z102 z106 z104 z105 z107 z201 z202 z207 z204 z205 z206 z301 z302 z303 z304 z305 z306 z307 z401 z402 z403) z9050 (z206 + z107)) (argsL := [(.int z9050), (.int (z206 + z107))]) (rest := [(.int (3 : Int32)), (.ref a6)]) rfl (ps := [.int, .int]) (by decide +kernel) rfl rfl 2 rfl (by decide) (by decide) (by decide) (by decide) ?_
      rintro _ _ ⟨z9051, rfl, rfl, hz9051, gz9051⟩
      show Go Bmrg4_3 Z a0 h0 _ 0 0 (M4 a1 a2 a3 a4 a5 a6 a7 q0 q1 q2 q3 z101 z201 z301 z102 z202 z302 z106 z207 z303 z104 z204 z304 z105 z205 z305 z106 z206 z306 z107 z207 z307 z401 z402 z403) 179 #[.val (.ref a1), .val (.int (3 : Int32)), .val (.int (6 : Int32)), .val (.int (7 : Int32)), .val (.int (0 : Int32)), .val (.int (64 : Int32)), .val (.int (1 : Int32)), .val (.int (z206 + z107))] [(.int z9051), (.int (3 : Int32)), (.ref a6)]
      have kz9051 : z9051.toInt = z9050.toInt ∨ z9051.toInt = (z206 + z107).toInt := by rcases gz9051 with h | h <;> rw [h] <;> simp
      refine go_iastore 5 180 rfl d19_179 rfl rfl (by decide) (lbe rfl) ?_
      show Go Bmrg4_3 Z a0 h0 _ 0 0 (M4 a1 a2 a3 a4 a5 a6 a7 q0 q1 q2 q3 z101 z201 z301 z102 z202 z302 z106 z207 z9051 z104 z204 z304 z105 z205 z305 z106 z206 z306 z107 z207 z307 z401 z402 z403) 180 #[.val (.ref a1), .val (.int (3 : Int32)), .val (.int (6 : Int32)), .val (.int (7 : Int32)), .val (.int (0 : Int32)), .val (.int (64 : Int32)), .val (.int (1 : Int32)), .val (.int (z206 + z107))] []
      exact go_return d19_180 rfl rfl (by decide) (by decide) ⟨_, _, _, hl.merge hr (by omega) (by omega) (by omega) (by omega) (by omega) (by omega) (by omega) (by omega), rfl, rfl⟩
    · refine go_iload 108 rfl d19_106 rfl ?_
      refine go_if 123 111 rfl (by decide) rfl d19_108 rfl (fun (hc108 : (1 : Int) = 0) => absurd hc108 (by decide)) (fun (hc108 : ¬ ((1 : Int) = 0)) => ?_)
      refine go_iload 113 rfl d19_111 rfl ?_
      refine go_aloadN 114 rfl d19_113 rfl rfl ?_
      refine go_get 0 4 117 rfl d19_114 rfl rfl rfl (wd hw 37 rfl) ?_
      refine go_iloadN 118 rfl d19_117 rfl ?_
      refine go_iaload 119 rfl d19_118 rfl (Mo.el (i := 4) rfl (by decide) rfl) ?_
      refine go_iadd 120 rfl d19_119 rfl ?_
      have fa2 : ((64 : Int32) + z206).toInt = (64 : Int) + z206.toInt := addE rfl rfl (by omega)
      refine go_goto 129 (by decide) rfl d19_120 ?_
      refine go_iastore 4 130 rfl d19_129 rfl rfl (by decide) (lbe rfl) ?_
      refine go_iload 132 rfl d19_130 rfl ?_
      refine go_if 151 135 rfl (by decide) rfl d19_132 rfl (fun (hc132 : (1 : Int) = 0) => absurd hc132 (by decide)) (fun (hc132 : ¬ ((1 : Int) = 0)) => ?_)
      refine go_aloadN 136 rfl d19_135 rfl rfl ?_
      refine go_get 0 4 139 rfl d19_136 rfl rfl rfl (wd hw 37 rfl) ?_
      refine go_iloadN 140 rfl d19_139 rfl ?_
      refine go_iaload 141 rfl d19_140 rfl (Mo.el (i := 4) rfl (by decide) rfl) ?_
      refine go_aloadN 142 rfl d19_141 rfl rfl ?_
      refine go_get 0 3 145 rfl d19_142 rfl rfl rfl (wd hw 35 rfl) ?_
      refine go_iloadN 146 rfl d19_145 rfl ?_
      refine go_iaload 147 rfl d19_146 rfl (Mo.el (i := 3) rfl (by decide) rfl) ?_
      refine go_iadd 148 rfl d19_147 rfl ?_
      have fa3 : (z206 + z107).toInt = z206.toInt + z107.toInt := addE rfl rfl (by omega)
      refine go_goto 152 (by decide) rfl d19_148 ?_
      refine go_istore #[.val (.ref a1), .val (.int (3 : Int32)), .val (.int (6 : Int32)), .val (.int (7 : Int32)), .val (.int (0 : Int32)), .val (.int (64 : Int32)), .val (.int (1 : Int32)), .val (.int (z206 + z107))] 154 rfl d19_152 rfl rfl ?_
      refine go_aloadN 155 rfl d19_154 rfl rfl ?_
      refine go_get 0 5 158 rfl d19_155 rfl rfl rfl (wd hw 39 rfl) ?_
      refine go_iloadN 159 rfl d19_158 rfl ?_
      refine go_aloadN 160 rfl d19_159 rfl rfl ?_
      refine go_get 0 5 163 rfl d19_160 rfl rfl rfl (wd hw 39 rfl) ?_
      refine go_iloadN 164 rfl d19_163 rfl ?_
      refine go_iaload 165 rfl d19_164 rfl (Mo.el (i := 5) rfl (by decide) rfl) ?_
      refine go_aloadN 166 rfl d19_165 rfl rfl ?_
      refine go_get 0 5 169 rfl d19_166 rfl rfl rfl (wd hw 39 rfl) ?_
      refine go_iloadN 170 rfl d19_169 rfl ?_
      refine go_iaload 171 rfl d19_170 rfl (Mo.el (i := 5) rfl (by decide) rfl) ?_
      refine go_callS 174 rfl d19_171 (wd hw 17 rfl) (wd hw 6 rfl) (wd hw 3 rfl) (wd hw 7 rfl) (by decide) (m_max Z a0 hw h0 (mem15 a1 a2 a3 a4 a5 a6 a7 q0 q1 q2 q3 z101 z102 z106 z104 z105 z107 z201 z202 z206 z204 z205 z207 z301 z302 z303 z304 z305 z306 z307 z401 z402 z403) z306 z307) (argsL := [(.int z306), (.int z307)]) (rest := [(.int (3 : Int32)), (.ref a6)]) rfl (ps := [.int, .int]) (by decide +kernel) rfl rfl 2 rfl (by decide) (by decide) (by decide) (by decide) ?_
      rintro _ _ ⟨z9052, rfl, rfl, hz9052, gz9052⟩
      show Go Bmrg4_3 Z a0 h0 _ 0 0 (M4 a1 a2 a3 a4 a5 a6 a7 q0 q1 q2 q3 z101 z201 z301 z102 z202 z302 z106 ((64 : Int32) + z206) z303 z104 z204 z304 z105 z205 z305 z106 z206 z306 z107 z207 z307 z401 z402 z403) 174 #[.val (.ref a1), .val (.int (3 : Int32)), .val (.int (6 : Int32)), .val (.int (7 : Int32)), .val (.int (0 : Int32)), .val (.int (64 : Int32)), .val (.int (1 : Int32)), .val (.int (z206 + z107))] [(.int z9052), (.int (3 : Int32)), (.ref a6)]
      have kz9052 : z9052.toInt = z306.toInt ∨ z9052.toInt = z307.toInt := by rcases gz9052 with h | h <;> rw [h] <;> simp
      refine go_iload 176 rfl d19_174 rfl ?_
      refine go_callS 179 rfl d19_176 (wd hw 17 rfl) (wd hw 6 rfl) (wd hw 3 rfl) (wd hw 7 rfl) (by decide) (m_max Z a0 hw h0 (mem15 a1 a2 a3 a4 a5 a6 a7 q0 q1 q2 q3 z101 z102 z106 z104 z105 z107 z201 z202 z206 z204 z205 z207 z301 z302 z303 z304 z305 z306 z307 z401 z402 z403) z9052 (z206 + z107)) (argsL := [(.int z9052), (.int (z206 + z107))]) (rest := [(.int (3 : Int32)), (.ref a6)]) rfl (ps := [.int, .int]) (by decide +kernel) rfl rfl 2 rfl (by decide) (by decide) (by decide) (by decide) ?_
      rintro _ _ ⟨z9053, rfl, rfl, hz9053, gz9053⟩
      show Go Bmrg4_3 Z a0 h0 _ 0 0 (M4 a1 a2 a3 a4 a5 a6 a7 q0 q1 q2 q3 z101 z201 z301 z102 z202 z302 z106 ((64 : Int32) + z206) z303 z104 z204 z304 z105 z205 z305 z106 z206 z306 z107 z207 z307 z401 z402 z403) 179 #[.val (.ref a1), .val (.int (3 : Int32)), .val (.int (6 : Int32)), .val (.int (7 : Int32)), .val (.int (0 : Int32)), .val (.int (64 : Int32)), .val (.int (1 : Int32)), .val (.int (z206 + z107))] [(.int z9053), (.int (3 : Int32)), (.ref a6)]
      have kz9053 : z9053.toInt = z9052.toInt ∨ z9053.toInt = (z206 + z107).toInt := by rcases gz9053 with h | h <;> rw [h] <;> simp
      refine go_iastore 5 180 rfl d19_179 rfl rfl (by decide) (lbe rfl) ?_
      show Go Bmrg4_3 Z a0 h0 _ 0 0 (M4 a1 a2 a3 a4 a5 a6 a7 q0 q1 q2 q3 z101 z201 z301 z102 z202 z302 z106 ((64 : Int32) + z206) z9053 z104 z204 z304 z105 z205 z305 z106 z206 z306 z107 z207 z307 z401 z402 z403) 180 #[.val (.ref a1), .val (.int (3 : Int32)), .val (.int (6 : Int32)), .val (.int (7 : Int32)), .val (.int (0 : Int32)), .val (.int (64 : Int32)), .val (.int (1 : Int32)), .val (.int (z206 + z107))] []
      exact go_return d19_180 rfl rfl (by decide) (by decide) ⟨_, _, _, hl.merge hr (by omega) (by omega) (by omega) (by omega) (by omega) (by omega) (by omega) (by omega), rfl, rfl⟩
  · refine go_iload 68 rfl d19_66 rfl ?_
    refine go_if 83 71 rfl (by decide) rfl d19_68 rfl (fun (hc68 : (1 : Int) = 0) => absurd hc68 (by decide)) (fun (hc68 : ¬ ((1 : Int) = 0)) => ?_)
    refine go_iload 73 rfl d19_71 rfl ?_
    refine go_aloadN 74 rfl d19_73 rfl rfl ?_
    refine go_get 0 3 77 rfl d19_74 rfl rfl rfl (wd hw 35 rfl) ?_
    refine go_iloadN 78 rfl d19_77 rfl ?_
    refine go_iaload 79 rfl d19_78 rfl (Mo.el (i := 3) rfl (by decide) rfl) ?_
    refine go_iadd 80 rfl d19_79 rfl ?_
    have fa4 : ((64 : Int32) + z107).toInt = (64 : Int) + z107.toInt := addE rfl rfl (by omega)
    refine go_goto 89 (by decide) rfl d19_80 ?_
    refine go_iastore 3 90 rfl d19_89 rfl rfl (by decide) (lbe rfl) ?_
    refine go_aloadN 91 rfl d19_90 rfl rfl ?_
    refine go_get 0 4 94 rfl d19_91 rfl rfl rfl (wd hw 37 rfl) ?_
    refine go_iloadN 95 rfl d19_94 rfl ?_
    refine go_aloadN 96 rfl d19_95 rfl rfl ?_
    refine go_get 0 4 99 rfl d19_96 rfl rfl rfl (wd hw 37 rfl) ?_
    refine go_iloadN 100 rfl d19_99 rfl ?_
    refine go_iaload 101 rfl d19_100 rfl (Mo.el (i := 4) rfl (by decide) rfl) ?_
    refine go_iload 103 rfl d19_101 rfl ?_
    refine go_icmp 123 106 rfl (by decide) rfl d19_103 rfl (fun (hc103_53 : z207.toInt ≠ (64 : Int)) => ?_) (fun (hc103_53 : ¬ (z207.toInt ≠ (64 : Int))) => ?_)
    · refine go_aloadN 124 rfl d19_123 rfl rfl ?_
      refine go_get 0 4 127 rfl d19_124 rfl rfl rfl (wd hw 37 rfl) ?_
      refine go_iloadN 128 rfl d19_127 rfl ?_
      refine go_iaload 129 rfl d19_128 rfl (Mo.el (i := 4) rfl (by decide) rfl) ?_
      refine go_iastore 4 130 rfl d19_129 rfl rfl (by decide) (lbe rfl) ?_
      refine go_iload 132 rfl d19_130 rfl ?_
      refine go_if 151 135 rfl (by decide) rfl d19_132 rfl (fun (hc132 : (1 : Int) = 0) => absurd hc132 (by decide)) (fun (hc132 : ¬ ((1 : Int) = 0)) => ?_)
      refine go_aloadN 136 rfl d19_135 rfl rfl ?_
      refine go_get 0 4 139 rfl d19_136 rfl rfl rfl (wd hw 37 rfl) ?_
      refine go_iloadN 140 rfl d19_139 rfl ?_
      refine go_iaload 141 rfl d19_140 rfl (Mo.el (i := 4) rfl (by decide) rfl) ?_
      refine go_aloadN 142 rfl d19_141 rfl rfl ?_
      refine go_get 0 3 145 rfl d19_142 rfl rfl rfl (wd hw 35 rfl) ?_
      refine go_iloadN 146 rfl d19_145 rfl ?_
      refine go_iaload 147 rfl d19_146 rfl (Mo.el (i := 3) rfl (by decide) rfl) ?_
      refine go_iadd 148 rfl d19_147 rfl ?_
      have fa5 : (z206 + z107).toInt = z206.toInt + z107.toInt := addE rfl rfl (by omega)
      refine go_goto 152 (by decide) rfl d19_148 ?_
      refine go_istore #[.val (.ref a1), .val (.int (3 : Int32)), .val (.int (6 : Int32)), .val (.int (7 : Int32)), .val (.int (0 : Int32)), .val (.int (64 : Int32)), .val (.int (1 : Int32)), .val (.int (z206 + z107))] 154 rfl d19_152 rfl rfl ?_
      refine go_aloadN 155 rfl d19_154 rfl rfl ?_
      refine go_get 0 5 158 rfl d19_155 rfl rfl rfl (wd hw 39 rfl) ?_
      refine go_iloadN 159 rfl d19_158 rfl ?_
      refine go_aloadN 160 rfl d19_159 rfl rfl ?_
      refine go_get 0 5 163 rfl d19_160 rfl rfl rfl (wd hw 39 rfl) ?_
      refine go_iloadN 164 rfl d19_163 rfl ?_
      refine go_iaload 165 rfl d19_164 rfl (Mo.el (i := 5) rfl (by decide) rfl) ?_
      refine go_aloadN 166 rfl d19_165 rfl rfl ?_
      refine go_get 0 5 169 rfl d19_166 rfl rfl rfl (wd hw 39 rfl) ?_
      refine go_iloadN 170 rfl d19_169 rfl ?_
      refine go_iaload 171 rfl d19_170 rfl (Mo.el (i := 5) rfl (by decide) rfl) ?_
      refine go_callS 174 rfl d19_171 (wd hw 17 rfl) (wd hw 6 rfl) (wd hw 3 rfl) (wd hw 7 rfl) (by decide) (m_max Z a0 hw h0 (mem16 a1 a2 a3 a4 a5 a6 a7 q0 q1 q2 q3 z101 z102 z107 z104 z105 z106 z201 z202 z207 z204 z205 z206 z301 z302 z303 z304 z305 z306 z307 z401 z402 z403) z306 z307) (argsL := [(.int z306), (.int z307)]) (rest := [(.int (3 : Int32)), (.ref a6)]) rfl (ps := [.int, .int]) (by decide +kernel) rfl rfl 2 rfl (by decide) (by decide) (by decide) (by decide) ?_
      rintro _ _ ⟨z9055, rfl, rfl, hz9055, gz9055⟩
      show Go Bmrg4_3 Z a0 h0 _ 0 0 (M4 a1 a2 a3 a4 a5 a6 a7 q0 q1 q2 q3 z101 z201 z301 z102 z202 z302 ((64 : Int32) + z107) z207 z303 z104 z204 z304 z105 z205 z305 z106 z206 z306 z107 z207 z307 z401 z402 z403) 174 #[.val (.ref a1), .val (.int (3 : Int32)), .val (.int (6 : Int32)), .val (.int (7 : Int32)), .val (.int (0 : Int32)), .val (.int (64 : Int32)), .val (.int (1 : Int32)), .val (.int (z206 + z107))] [(.int z9055), (.int (3 : Int32)), (.ref a6)]
      have kz9055 : z9055.toInt = z306.toInt ∨ z9055.toInt = z307.toInt := by rcases gz9055 with h | h <;> rw [h] <;> simp
      refine go_iload 176 rfl d19_174 rfl ?_
      refine go_callS 179 rfl d19_176 (wd hw 17 rfl) (wd hw 6 rfl) (wd hw 3 rfl) (wd hw 7 rfl) (by decide) (m_max Z a0 hw h0 (mem16 a1 a2 a3 a4 a5 a6 a7 q0 q1 q2 q3 z101 z102 z107 z104 z105 z106 z201 z202 z207 z204 z205 z206 z301 z302 z303 z304 z305 z306 z307 z401 z402 z403) z9055 (z206 + z107)) (argsL := [(.int z9055), (.int (z206 + z107))]) (rest := [(.int (3 : Int32)), (.ref a6)]) rfl (ps := [.int, .int]) (by decide +kernel) rfl rfl 2 rfl (by decide) (by decide) (by decide) (by decide) ?_
      rintro _ _ ⟨z9056, rfl, rfl, hz9056, gz9056⟩
      show Go Bmrg4_3 Z a0 h0 _ 0 0 (M4 a1 a2 a3 a4 a5 a6 a7 q0 q1 q2 q3 z101 z201 z301 z102 z202 z302 ((64 : Int32) + z107) z207 z303 z104 z204 z304 z105 z205 z305 z106 z206 z306 z107 z207 z307 z401 z402 z403) 179 #[.val (.ref a1), .val (.int (3 : Int32)), .val (.int (6 : Int32)), .val (.int (7 : Int32)), .val (.int (0 : Int32)), .val (.int (64 : Int32)), .val (.int (1 : Int32)), .val (.int (z206 + z107))] [(.int z9056), (.int (3 : Int32)), (.ref a6)]
      have kz9056 : z9056.toInt = z9055.toInt ∨ z9056.toInt = (z206 + z107).toInt := by rcases gz9056 with h | h <;> rw [h] <;> simp
      refine go_iastore 5 180 rfl d19_179 rfl rfl (by decide) (lbe rfl) ?_
      show Go Bmrg4_3 Z a0 h0 _ 0 0 (M4 a1 a2 a3 a4 a5 a6 a7 q0 q1 q2 q3 z101 z201 z301 z102 z202 z302 ((64 : Int32) + z107) z207 z9056 z104 z204 z304 z105 z205 z305 z106 z206 z306 z107 z207 z307 z401 z402 z403) 180 #[.val (.ref a1), .val (.int (3 : Int32)), .val (.int (6 : Int32)), .val (.int (7 : Int32)), .val (.int (0 : Int32)), .val (.int (64 : Int32)), .val (.int (1 : Int32)), .val (.int (z206 + z107))] []
      exact go_return d19_180 rfl rfl (by decide) (by decide) ⟨_, _, _, hl.merge hr (by omega) (by omega) (by omega) (by omega) (by omega) (by omega) (by omega) (by omega), rfl, rfl⟩
    · refine go_iload 108 rfl d19_106 rfl ?_
      refine go_if 123 111 rfl (by decide) rfl d19_108 rfl (fun (hc108 : (1 : Int) = 0) => absurd hc108 (by decide)) (fun (hc108 : ¬ ((1 : Int) = 0)) => ?_)
      refine go_iload 113 rfl d19_111 rfl ?_
      refine go_aloadN 114 rfl d19_113 rfl rfl ?_
      refine go_get 0 4 117 rfl d19_114 rfl rfl rfl (wd hw 37 rfl) ?_
      refine go_iloadN 118 rfl d19_117 rfl ?_
      refine go_iaload 119 rfl d19_118 rfl (Mo.el (i := 4) rfl (by decide) rfl) ?_
      refine go_iadd 120 rfl d19_119 rfl ?_
      have fa6 : ((64 : Int32) + z206).toInt = (64 : Int) + z206.toInt := addE rfl rfl (by omega)
      refine go_goto 129 (by decide) rfl d19_120 ?_
      refine go_iastore 4 130 rfl d19_129 rfl rfl (by decide) (lbe rfl) ?_
      refine go_iload 132 rfl d19_130 rfl ?_
      refine go_if 151 135 rfl (by decide) rfl d19_132 rfl (fun (hc132 : (1 : Int) = 0) => absurd hc132 (by decide)) (fun (hc132 : ¬ ((1 : Int) = 0)) => ?_)
      refine go_aloadN 136 rfl d19_135 rfl rfl ?_
      refine go_get 0 4 139 rfl d19_136 rfl rfl rfl (wd hw 37 rfl) ?_
      refine go_iloadN 140 rfl d19_139 rfl ?_
      refine go_iaload 141 rfl d19_140 rfl (Mo.el (i := 4) rfl (by decide) rfl) ?_
      refine go_aloadN 142 rfl d19_141 rfl rfl ?_
      refine go_get 0 3 145 rfl d19_142 rfl rfl rfl (wd hw 35 rfl) ?_
      refine go_iloadN 146 rfl d19_145 rfl ?_
      refine go_iaload 147 rfl d19_146 rfl (Mo.el (i := 3) rfl (by decide) rfl) ?_
      refine go_iadd 148 rfl d19_147 rfl ?_
      have fa7 : (z206 + z107).toInt = z206.toInt + z107.toInt := addE rfl rfl (by omega)
      refine go_goto 152 (by decide) rfl d19_148 ?_
      refine go_istore #[.val (.ref a1), .val (.int (3 : Int32)), .val (.int (6 : Int32)), .val (.int (7 : Int32)), .val (.int (0 : Int32)), .val (.int (64 : Int32)), .val (.int (1 : Int32)), .val (.int (z206 + z107))] 154 rfl d19_152 rfl rfl ?_
      refine go_aloadN 155 rfl d19_154 rfl rfl ?_
      refine go_get 0 5 158 rfl d19_155 rfl rfl rfl (wd hw 39 rfl) ?_
      refine go_iloadN 159 rfl d19_158 rfl ?_
      refine go_aloadN 160 rfl d19_159 rfl rfl ?_
      refine go_get 0 5 163 rfl d19_160 rfl rfl rfl (wd hw 39 rfl) ?_
      refine go_iloadN 164 rfl d19_163 rfl ?_
      refine go_iaload 165 rfl d19_164 rfl (Mo.el (i := 5) rfl (by decide) rfl) ?_
      refine go_aloadN 166 rfl d19_165 rfl rfl ?_
      refine go_get 0 5 169 rfl d19_166 rfl rfl rfl (wd hw 39 rfl) ?_
      refine go_iloadN 170 rfl d19_169 rfl ?_
      refine go_iaload 171 rfl d19_170 rfl (Mo.el (i := 5) rfl (by decide) rfl) ?_
      refine go_callS 174 rfl d19_171 (wd hw 17 rfl) (wd hw 6 rfl) (wd hw 3 rfl) (wd hw 7 rfl) (by decide) (m_max Z a0 hw h0 (mem17 a1 a2 a3 a4 a5 a6 a7 q0 q1 q2 q3 z101 z102 z107 z104 z105 z106 z201 z202 z206 z204 z205 z207 z301 z302 z303 z304 z305 z306 z307 z401 z402 z403) z306 z307) (argsL := [(.int z306), (.int z307)]) (rest := [(.int (3 : Int32)), (.ref a6)]) rfl (ps := [.int, .int]) (by decide +kernel) rfl rfl 2 rfl (by decide) (by decide) (by decide) (by decide) ?_
      rintro _ _ ⟨z9057, rfl, rfl, hz9057, gz9057⟩
      show Go Bmrg4_3 Z a0 h0 _ 0 0 (M4 a1 a2 a3 a4 a5 a6 a7 q0 q1 q2 q3 z101 z201 z301 z102 z202 z302 ((64 : Int32) + z107) ((64 : Int32) + z206) z303 z104 z204 z304 z105 z205 z305 z106 z206 z306 z107 z207 z307 z401 z402 z403) 174 #[.val (.ref a1), .val (.int (3 : Int32)), .val (.int (6 : Int32)), .val (.int (7 : Int32)), .val (.int (0 : Int32)), .val (.int (64 : Int32)), .val (.int (1 : Int32)), .val (.int (z206 + z107))] [(.int z9057), (.int (3 : Int32)), (.ref a6)]
      have kz9057 : z9057.toInt = z306.toInt ∨ z9057.toInt = z307.toInt := by rcases gz9057 with h | h <;> rw [h] <;> simp
      refine go_iload 176 rfl d19_174 rfl ?_
      refine go_callS 179 rfl d19_176 (wd hw 17 rfl) (wd hw 6 rfl) (wd hw 3 rfl) (wd hw 7 rfl) (by decide) (m_max Z a0 hw h0 (mem17 a1 a2 a3 a4 a5 a6 a7 q0 q1 q2 q3 z101 z102 z107 z104 z105 z106 z201 z202 z206 z204 z205 z207 z301 z302 z303 z304 z305 z306 z307 z401 z402 z403) z9057 (z206 + z107)) (argsL := [(.int z9057), (.int (z206 + z107))]) (rest := [(.int (3 : Int32)), (.ref a6)]) rfl (ps := [.int, .int]) (by decide +kernel) rfl rfl 2 rfl (by decide) (by decide) (by decide) (by decide) ?_
      rintro _ _ ⟨z9058, rfl, rfl, hz9058, gz9058⟩
      show Go Bmrg4_3 Z a0 h0 _ 0 0 (M4 a1 a2 a3 a4 a5 a6 a7 q0 q1 q2 q3 z101 z201 z301 z102 z202 z302 ((64 : Int32) + z107) ((64 : Int32) + z206) z303 z104 z204 z304 z105 z205 z305 z106 z206 z306 z107 z207 z307 z401 z402 z403) 179 #[.val (.ref a1), .val (.int (3 : Int32)), .val (.int (6 : Int32)), .val (.int (7 : Int32)), .val (.int (0 : Int32)), .val (.int (64 : Int32)), .val (.int (1 : Int32)), .val (.int (z206 + z107))] [(.int z9058), (.int (3 : Int32)), (.ref a6)]
      have kz9058 : z9058.toInt = z9057.toInt ∨ z9058.toInt = (z206 + z107).toInt := by rcases gz9058 with h | h <;> rw [h] <;> simp
      refine go_iastore 5 180 rfl d19_179 rfl rfl (by decide) (lbe rfl) ?_
      show Go Bmrg4_3 Z a0 h0 _ 0 0 (M4 a1 a2 a3 a4 a5 a6 a7 q0 q1 q2 q3 z101 z201 z301 z102 z202 z302 ((64 : Int32) + z107) ((64 : Int32) + z206) z9058 z104 z204 z304 z105 z205 z305 z106 z206 z306 z107 z207 z307 z401 z402 z403) 180 #[.val (.ref a1), .val (.int (3 : Int32)), .val (.int (6 : Int32)), .val (.int (7 : Int32)), .val (.int (0 : Int32)), .val (.int (64 : Int32)), .val (.int (1 : Int32)), .val (.int (z206 + z107))] []
      exact go_return d19_180 rfl rfl (by decide) (by decide) ⟨_, _, _, hl.merge hr (by omega) (by omega) (by omega) (by omega) (by omega) (by omega) (by omega) (by omega), rfl, rfl⟩
theorem d16_0 : decode prog_101_method_6_code 0 = .ok (.iload_n 1, 1) := by decide +kernel
theorem d16_1 : decode prog_101_method_6_code 1 = .ok (.aload_n 0, 1) := by decide +kernel
theorem d16_2 : decode prog_101_method_6_code 2 = .ok (.getfield 21, 3) := by decide +kernel
theorem d16_5 : decode prog_101_method_6_code 5 = .ok (.if_icmp .ge 40, 3) := by decide +kernel
theorem d16_45 : decode prog_101_method_6_code 45 = .ok (.return_, 1) := by decide +kernel
theorem pn16 : plainFor (⟨"com/example/clauseline/clauseline/service/TakenPieces", "update", "(I)V"⟩ : MethodName) = true := by first | (apply plainFor_of_name; simp [plainName, overriddenIn]; done) | decide +kernel
def BupdL : Bdy := (⟨"com/example/clauseline/clauseline/service/TakenPieces", "update", "(I)V"⟩, prog_101_method_6_code, 2, none, ({ frames := 0, cells := 0, slots := 0, locals := 0 } : Room))
theorem m_updL (Z : State) (a0 : Array Value) (hw : ∀ d ∈ tables_1, d.before a0 Z = true) (h0 : Heap) (a1 a2 a3 a4 a5 a6 a7 : Addr) (v91 v92 v93 v94 v95 v96 : List Value) (p1 p2 : Int32) (hn : p2.toInt ≤ p1.toInt) :
    Met BupdL Z a0 h0 #[(.ref a1), (.int p1)] (M7 a1 a2 a3 a4 a5 a6 a7 p2 v91 v92 v93 v94 v95 v96) (Ret none (M7 a1 a2 a3 a4 a5 a6 a7 p2 v91 v92 v93 v94 v95 v96)) := by
  refine Met.of pn16 (ls := #[.val (.ref a1), .val (.int p1)]) (fun m => by first | (simp [entryFrame, mkF, argsToLocals, Value.category, BupdL]; done) | rfl) ?_
  refine go_iloadN 1 rfl d16_0 rfl ?_
  refine go_aloadN 2 rfl d16_1 rfl rfl ?_
  refine go_get 0 0 5 rfl d16_2 rfl rfl rfl (wd hw 27 rfl) ?_
  refine go_icmp 45 8 rfl (by decide) rfl d16_5 rfl (fun (hc5 : p2.toInt ≤ p1.toInt) => ?_) (fun (hc5 : ¬ (p2.toInt ≤ p1.toInt)) => absurd hc5 (by omega))
  exact go_return d16_45 rfl rfl (by decide) (by decide) ⟨rfl, rfl⟩
theorem d16_8 : decode prog_101_method_6_code 8 = .ok (.aload_n 0, 1) := by decide +kernel
theorem d16_9 : decode prog_101_method_6_code 9 = .ok (.getfield 42, 3) := by decide +kernel
theorem d16_12 : decode prog_101_method_6_code 12 = .ok (.iload_n 1, 1) := by decide +kernel
theorem d16_13 : decode prog_101_method_6_code 13 = .ok (.baload, 1) := by decide +kernel
theorem d16_14 : decode prog_101_method_6_code 14 = .ok (.ifCond .eq 31, 3) := by decide +kernel
theorem d16_17 : decode prog_101_method_6_code 17 = .ok (.aload_n 0, 1) := by decide +kernel
theorem d16_18 : decode prog_101_method_6_code 18 = .ok (.getfield 42, 3) := by decide +kernel
theorem d16_21 : decode prog_101_method_6_code 21 = .ok (.iload_n 1, 1) := by decide +kernel
theorem d16_22 : decode prog_101_method_6_code 22 = .ok (.iconst 0, 1) := by decide +kernel
theorem d16_23 : decode prog_101_method_6_code 23 = .ok (.bastore, 1) := by decide +kernel
theorem d16_24 : decode prog_101_method_6_code 24 = .ok (.aload_n 0, 1) := by decide +kernel
theorem d16_25 : decode prog_101_method_6_code 25 = .ok (.iconst 2, 1) := by decide +kernel
theorem d16_26 : decode prog_101_method_6_code 26 = .ok (.iload_n 1, 1) := by decide +kernel
theorem d16_27 : decode prog_101_method_6_code 27 = .ok (.imul, 1) := by decide +kernel
theorem d16_28 : decode prog_101_method_6_code 28 = .ok (.invokevirtual 62, 3) := by decide +kernel
theorem d16_31 : decode prog_101_method_6_code 31 = .ok (.aload_n 0, 1) := by decide +kernel
theorem d16_32 : decode prog_101_method_6_code 32 = .ok (.iconst 2, 1) := by decide +kernel
theorem d16_33 : decode prog_101_method_6_code 33 = .ok (.iload_n 1, 1) := by decide +kernel
theorem d16_34 : decode prog_101_method_6_code 34 = .ok (.imul, 1) := by decide +kernel
theorem d16_35 : decode prog_101_method_6_code 35 = .ok (.iconst 1, 1) := by decide +kernel
theorem d16_36 : decode prog_101_method_6_code 36 = .ok (.iadd, 1) := by decide +kernel
theorem d16_37 : decode prog_101_method_6_code 37 = .ok (.invokevirtual 62, 3) := by decide +kernel
theorem d16_40 : decode prog_101_method_6_code 40 = .ok (.aload_n 0, 1) := by decide +kernel
theorem d16_41 : decode prog_101_method_6_code 41 = .ok (.iload_n 1, 1) := by decide +kernel
theorem d16_42 : decode prog_101_method_6_code 42 = .ok (.invokevirtual 52, 3) := by decide +kernel
def Bupd2_1 : Bdy := (⟨"com/example/clauseline/clauseline/service/TakenPieces", "update", "(I)V"⟩, prog_101_method_6_code, 2, none, ({ frames := 3, cells := 0, slots := 0, locals := 46 } : Room))
theorem m_upd2_1 (Z : State) (a0 : Array Value) (hw : ∀ d ∈ tables_1, d.before a0 Z = true) (h0 : Heap) (P : Fr1) (a1 a2 a3 a4 a5 a6 a7 : Addr) (q0 q1 : Int64) (z101 z201 z301 z102 z202 z302 z103 z203 z303 z401 : Int32) (s2 : Sm P 0 64 z102.toInt z202.toInt z302.toInt) (s3 : Sm P 64 128 z103.toInt z203.toInt z303.toInt) (k1 : z401.toInt = 0 → Sm P 0 128 z101.toInt z201.toInt z301.toInt) :
    Met Bupd2_1 Z a0 h0 #[(.ref a1), (.int (1 : Int32))] (M2 a1 a2 a3 a4 a5 a6 a7 q0 q1 z101 z201 z301 z102 z202 z302 z103 z203 z303 z401) (fun v ds => ∃ y10 y11 y12 y13 : Int32, (Sm P 0 128 y10.toInt y11.toInt y12.toInt) ∧ Ret none (M2 a1 a2 a3 a4 a5 a6 a7 q0 q1 y10 y11 y12 z102 z202 z302 z103 z203 z303 y13) v ds) := by
  refine Met.of pn16 (ls := #[.val (.ref a1), .val (.int (1 : Int32))]) (fun m => by first | (simp [entryFrame, mkF, argsToLocals, Value.category, Bupd2_1]; done) | rfl) ?_
  refine go_iloadN 1 rfl d16_0 rfl ?_
  refine go_aloadN 2 rfl d16_1 rfl rfl ?_
  refine go_get 0 0 5 rfl d16_2 rfl rfl rfl (wd hw 27 rfl) ?_
  refine go_icmp 45 8 rfl (by decide) rfl d16_5 rfl (fun (hc5 : (2 : Int) ≤ (1 : Int)) => absurd hc5 (by decide)) (fun (hc5 : ¬ ((2 : Int) ≤ (1 : Int))) => ?_)
  refine go_aloadN 9 rfl d16_8 rfl rfl ?_
  refine go_get 0 6 12 rfl d16_9 rfl rfl rfl (wd hw 42 rfl) ?_
  refine go_iloadN 13 rfl d16_12 rfl ?_
  refine go_zaload 14 rfl d16_13 rfl (Mo.el (i := 6) rfl (by decide) rfl) ?_
  refine go_if 45 17 rfl (by decide) rfl d16_14 rfl (fun (hc14_58 : z401.toInt = 0) => ?_) (fun (hc14_58 : ¬ (z401.toInt = 0)) => ?_)
  · exact go_return d16_45 rfl rfl (by decide) (by decide) ⟨_, _, _, _, k1 hc14_58, rfl, rfl⟩
  · refine go_aloadN 18 rfl d16_17 rfl rfl ?_
    refine go_get 0 6 21 rfl d16_18 rfl rfl rfl (wd hw 42 rfl) ?_
    refine go_iloadN 22 rfl d16_21 rfl ?_
    refine go_iconst (0 : Int32) 23 rfl d16_22 rfl ?_
    refine go_zastore 6 24 rfl d16_23 rfl rfl (by decide) (lbe rfl) ?_
    refine go_aloadN 25 rfl d16_24 rfl rfl ?_
    refine go_iconst (2 : Int32) 26 rfl d16_25 rfl ?_
    refine go_iloadN 27 rfl d16_26 rfl ?_
    refine go_imul 28 rfl d16_27 rfl ?_
    refine go_callP (host := "") 31 rfl d16_28 (Or.inl (wd hw 80 rfl)) (wd hw 81 rfl) (wd hw 82 rfl) (wd hw 9 rfl) (wd hw 10 rfl) (wd hw 83 rfl) (by decide) (Mo.exa (i := 0) rfl) (m_updL Z a0 hw h0 a1 a2 a3 a4 a5 a6 a7 [(.long q0), (.long q1)] [(.long (0 : Int64)), (.long (0 : Int64))] [(.int (0 : Int32)), (.int z101), (.int z102), (.int z103)] [(.int (0 : Int32)), (.int z201), (.int z202), (.int z203)] [(.int (0 : Int32)), (.int z301), (.int z302), (.int z303)] [(.int (0 : Int32)), (.int (0 : Int32))] (2 : Int32) (2 : Int32) (by decide)) (argsL := [(.int (2 : Int32))]) (rest := []) rfl (ps := [.int]) (by decide +kernel) rfl rfl 0 rfl (by decide) (by decide) (by decide) (by decide) ?_
    rintro _ _ ⟨rfl, rfl⟩
    show Go Bupd2_1 Z a0 h0 _ 0 0 (M2 a1 a2 a3 a4 a5 a6 a7 q0 q1 z101 z201 z301 z102 z202 z302 z103 z203 z303 (0 : Int32)) 31 #[.val (.ref a1), .val (.int (1 : Int32))] []
    refine go_aloadN 32 rfl d16_31 rfl rfl ?_
    refine go_iconst (2 : Int32) 33 rfl d16_32 rfl ?_
    refine go_iloadN 34 rfl d16_33 rfl ?_
    refine go_imul 35 rfl d16_34 rfl ?_
    refine go_iconst (1 : Int32) 36 rfl d16_35 rfl ?_
    refine go_iadd 37 rfl d16_36 rfl ?_
    refine go_callP (host := "") 40 rfl d16_37 (Or.inl (wd hw 80 rfl)) (wd hw 81 rfl) (wd hw 82 rfl) (wd hw 9 rfl) (wd hw 10 rfl) (wd hw 83 rfl) (by decide) (Mo.exa (i := 0) rfl) (m_updL Z a0 hw h0 a1 a2 a3 a4 a5 a6 a7 [(.long q0), (.long q1)] [(.long (0 : Int64)), (.long (0 : Int64))] [(.int (0 : Int32)), (.int z101), (.int z102), (.int z103)] [(.int (0 : Int32)), (.int z201), (.int z202), (.int z203)] [(.int (0 : Int32)), (.int z301), (.int z302), (.int z303)] [(.int (0 : Int32)), (.int (0 : Int32))] (3 : Int32) (2 : Int32) (by decide)) (argsL := [(.int (3 : Int32))]) (rest := []) rfl (ps := [.int]) (by decide +kernel) rfl rfl 0 rfl (by decide) (by decide) (by decide) (by decide) ?_
    rintro _ _ ⟨rfl, rfl⟩
    show Go Bupd2_1 Z a0 h0 _ 0 0 (M2 a1 a2 a3 a4 a5 a6 a7 q0 q1 z101 z201 z301 z102 z202 z302 z103 z203 z303 (0 : Int32)) 40 #[.val (.ref a1), .val (.int (1 : Int32))] []
    refine go_aloadN 41 rfl d16_40 rfl rfl ?_
    refine go_iloadN 42 rfl d16_41 rfl ?_
    refine go_callP (host := "") 45 rfl d16_42 (Or.inl (wd hw 92 rfl)) (wd hw 93 rfl) (wd hw 94 rfl) (wd hw 9 rfl) (wd hw 10 rfl) (wd hw 95 rfl) (by decide) (Mo.exa (i := 0) rfl) (m_mrg2_1 Z a0 hw h0 P a1 a2 a3 a4 a5 a6 a7 q0 q1 z101 z201 z301 z102 z202 z302 z103 z203 z303 (0 : Int32) s2 s3) (argsL := [(.int (1 : Int32))]) (rest := []) rfl (ps := [.int]) (by decide +kernel) rfl rfl 0 rfl (by decide) (by decide) (by decide) (by decide) ?_
    rintro _ _ ⟨z601, z602, z603, hz601, rfl, rfl⟩
    show Go Bupd2_1 Z a0 h0 _ 0 0 (M2 a1 a2 a3 a4 a5 a6 a7 q0 q1 z601 z602 z603 z102 z202 z302 z103 z203 z303 (0 : Int32)) 45 #[.val (.ref a1), .val (.int (1 : Int32))] []
    exact go_return d16_45 rfl rfl (by decide) (by decide) ⟨_, _, _, _, hz601, rfl, rfl⟩
def Bupd4_2 : Bdy := (⟨"com/example/clauseline/clauseline/service/TakenPieces", "update", "(I)V"⟩, prog_101_method_6_code, 2, none, ({ frames := 3, cells := 0, slots := 0, locals := 46 } : Room))
theorem m_upd4_2 (Z : State) (a0 : Array Value) (hw : ∀ d ∈ tables_1, d.before a0 Z = true) (h0 : Heap) (P : Fr1) (a1 a2 a3 a4 a5 a6 a7 : Addr) (q0 q1 q2 q3 : Int64) (z101 z201 z301 z102 z202 z302 z103 z203 z303 z104 z204 z304 z105 z205 z305 z106 z206 z306 z107 z207 z307 z401 z402 z403 : Int32) (s4 : Sm P 0 64 z104.toInt z204.toInt z304.toInt) (s5 : Sm P 64 128 z105.toInt z205.toInt z305.toInt) (s6 : Sm P 128 192 z106.toInt z206.toInt z306.toInt) (s7 : Sm P 192 256 z107.toInt z207.toInt z307.toInt) (k2 : z402.toInt = 0 → Sm P 0 128 z102.toInt z202.toInt z302.toInt) :
    Met Bupd4_2 Z a0 h0 #[(.ref a1), (.int (2 : Int32))] (M4 a1 a2 a3 a4 a5 a6 a7 q0 q1 q2 q3 z101 z201 z301 z102 z202 z302 z103 z203 z303 z104 z204 z304 z105 z205 z305 z106 z206 z306 z107 z207 z307 z401 z402 z403) (fun v ds => ∃ y20 y21 y22 y23 : Int32, (Sm P 0 128 y20.toInt y21.toInt y22.toInt) ∧ Ret none (M4 a1 a2 a3 a4 a5 a6 a7 q0 q1 q2 q3 z101 z201 z301 y20 y21 y22 z103 z203 z303 z104 z204 z304 z105 z205 z305 z106 z206 z306 z107 z207 z307 z401 y23 z403) v ds) := by
  refine Met.of pn16 (ls := #[.val (.ref a1), .val (.int (2 : Int32))]) (fun m => by first | (simp [entryFrame, mkF, argsToLocals, Value.category, Bupd4_2]; done) | rfl) ?_
  refine go_iloadN 1 rfl d16_0 rfl ?_
  refine go_aloadN 2 rfl d16_1 rfl rfl ?_
  refine go_get 0 0 5 rfl d16_2 rfl rfl rfl (wd hw 27 rfl) ?_
  refine go_icmp 45 8 rfl (by decide) rfl d16_5 rfl (fun (hc5 : (4 : Int) ≤ (2 : Int)) => absurd hc5 (by decide)) (fun (hc5 : ¬ ((4 : Int) ≤ (2 : Int))) => ?_)
  refine go_aloadN 9 rfl d16_8 rfl rfl ?_
  refine go_get 0 6 12 rfl d16_9 rfl rfl rfl (wd hw 42 rfl) ?_
  refine go_iloadN 13 rfl d16_12 rfl ?_
  refine go_zaload 14 rfl d16_13 rfl (Mo.el (i := 6) rfl (by decide) rfl) ?_
  refine go_if 45 17 rfl (by decide) rfl d16_14 rfl (fun (hc14_59 : z402.toInt = 0) => ?_) (fun (hc14_59 : ¬ (z402.toInt = 0)) => ?_)
  · exact go_return d16_45 rfl rfl (by decide) (by decide) ⟨_, _, _, _, k2 hc14_59, rfl, rfl⟩
  · refine go_aloadN 18 rfl d16_17 rfl rfl ?_
    refine go_get 0 6 21 rfl d16_18 rfl rfl rfl (wd hw 42 rfl) ?_
    refine go_iloadN 22 rfl d16_21 rfl ?_
    refine go_iconst (0 : Int32) 23 rfl d16_22 rfl ?_
    refine go_zastore 6 24 rfl d16_23 rfl rfl (by decide) (lbe rfl) ?_
    refine go_aloadN 25 rfl d16_24 rfl rfl ?_
    refine go_iconst (2 : Int32) 26 rfl d16_25 rfl ?_
    refine go_iloadN 27 rfl d16_26 rfl ?_
    refine go_imul 28 rfl d16_27 rfl ?_
    refine go_callP (host := "") 31 rfl d16_28 (Or.inl (wd hw 80 rfl)) (wd hw 81 rfl) (wd hw 82 rfl) (wd hw 9 rfl) (wd hw 10 rfl) (wd hw 83 rfl) (by decide) (Mo.exa (i := 0) rfl) (m_updL Z a0 hw h0 a1 a2 a3 a4 a5 a6 a7 [(.long q0), (.long q1), (.long q2), (.long q3)] [(.long (0 : Int64)), (.long (0 : Int64)), (.long (0 : Int64)), (.long (0 : Int64))] [(.int (0 : Int32)), (.int z101), (.int z102), (.int z103), (.int z104), (.int z105), (.int z106), (.int z107)] [(.int (0 : Int32)), (.int z201), (.int z202), (.int z203), (.int z204), (.int z205), (.int z206), (.int z207)] [(.int (0 : Int32)), (.int z301), (.int z302), (.int z303), (.int z304), (.int z305), (.int z306), (.int z307)] [(.int (0 : Int32)), (.int z401), (.int (0 : Int32)), (.int z403)] (4 : Int32) (4 : Int32) (by decide)) (argsL := [(.int (4 : Int32))]) (rest := []) rfl (ps := [.int]) (by decide +kernel) rfl rfl 0 rfl (by decide) (by decide) (by decide) (by decide) ?_
    rintro _ _ ⟨rfl, rfl⟩
    show Go Bupd4_2 Z a0 h0 _ 0 0 (M4 a1 a2 a3 a4 a5 a6 a7 q0 q1 q2 q3 z101 z201 z301 z102 z202 z302 z103 z203 z303 z104 z204 z304 z105 z205 z305 z106 z206 z306 z107 z207 z307 z401 (0 : Int32) z403) 31 #[.val (.ref a1), .val (.int (2 : Int32))] []
    refine go_aloadN 32 rfl d16_31 rfl rfl ?_
    refine go_iconst (2 : Int32) 33 rfl d16_32 rfl ?_
    refine go_iloadN 34 rfl d16_33 rfl ?_
    refine go_imul 35 rfl d16_34 rfl ?_
    refine go_iconst (1 : Int32) 36 rfl d16_35 rfl ?_
    refine go_iadd 37 rfl d16_36 rfl ?_
    refine go_callP (host := "") 40 rfl d16_37 (Or.inl (wd hw 80 rfl)) (wd hw 81 rfl) (wd hw 82 rfl) (wd hw 9 rfl) (wd hw 10 rfl) (wd hw 83 rfl) (by decide) (Mo.exa (i := 0) rfl) (m_updL Z a0 hw h0 a1 a2 a3 a4 a5 a6 a7 [(.long q0), (.long q1), (.long q2), (.long q3)] [(.long (0 : Int64)), (.long (0 : Int64)), (.long (0 : Int64)), (.long (0 : Int64))] [(.int (0 : Int32)), (.int z101), (.int z102), (.int z103), (.int z104), (.int z105), (.int z106), (.int z107)] [(.int (0 : Int32)), (.int z201), (.int z202), (.int z203), (.int z204), (.int z205), (.int z206), (.int z207)] [(.int (0 : Int32)), (.int z301), (.int z302), (.int z303), (.int z304), (.int z305), (.int z306), (.int z307)] [(.int (0 : Int32)), (.int z401), (.int (0 : Int32)), (.int z403)] (5 : Int32) (4 : Int32) (by decide)) (argsL := [(.int (5 : Int32))]) (rest := []) rfl (ps := [.int]) (by decide +kernel) rfl rfl 0 rfl (by decide) (by decide) (by decide) (by decide) ?_
    rintro _ _ ⟨rfl, rfl⟩
    show Go Bupd4_2 Z a0 h0 _ 0 0 (M4 a1 a2 a3 a4 a5 a6 a7 q0 q1 q2 q3 z101 z201 z301 z102 z202 z302 z103 z203 z303 z104 z204 z304 z105 z205 z305 z106 z206 z306 z107 z207 z307 z401 (0 : Int32) z403) 40 #[.val (.ref a1), .val (.int (2 : Int32))] []
    refine go_aloadN 41 rfl d16_40 rfl rfl ?_
    refine go_iloadN 42 rfl d16_41 rfl ?_
    refine go_callP (host := "") 45 rfl d16_42 (Or.inl (wd hw 92 rfl)) (wd hw 93 rfl) (wd hw 94 rfl) (wd hw 9 rfl) (wd hw 10 rfl) (wd hw 95 rfl) (by decide) (Mo.exa (i := 0) rfl) (m_mrg4_2 Z a0 hw h0 P a1 a2 a3 a4 a5 a6 a7 q0 q1 q2 q3 z101 z201 z301 z102 z202 z302 z103 z203 z303 z104 z204 z304 z105 z205 z305 z106 z206 z306 z107 z207 z307 z401 (0 : Int32) z403 s4 s5) (argsL := [(.int (2 : Int32))]) (rest := []) rfl (ps := [.int]) (by decide +kernel) rfl rfl 0 rfl (by decide) (by decide) (by decide) (by decide) ?_
    rintro _ _ ⟨z604, z605, z606, hz604, rfl, rfl⟩
    show Go Bupd4_2 Z a0 h0 _ 0 0 (M4 a1 a2 a3 a4 a5 a6 a7 q0 q1 q2 q3 z101 z201 z301 z604 z605 z606 z103 z203 z303 z104 z204 z304 z105 z205 z305 z106 z206 z306 z107 z207 z307 z401 (0 : Int32) z403) 45 #[.val (.ref a1), .val (.int (2 : Int32))] []
    exact go_return d16_45 rfl rfl (by decide) (by decide) ⟨_, _, _, _, hz604, rfl, rfl⟩
def Bupd4_3 : Bdy := (⟨"com/example/clauseline/clauseline/service/TakenPieces", "update", "(I)V"⟩, prog_101_method_6_code, 2, none, ({ frames := 3, cells := 0, slots := 0, locals := 46 } : Room))
theorem m_upd4_3 (Z : State) (a0 : Array Value) (hw : ∀ d ∈ tables_1, d.before a0 Z = true) (h0 : Heap) (P : Fr1) (a1 a2 a3 a4 a5 a6 a7 : Addr) (q0 q1 q2 q3 : Int64) (z101 z201 z301 z102 z202 z302 z103 z203 z303 z104 z204 z304 z105 z205 z305 z106 z206 z306 z107 z207 z307 z401 z402 z403 : Int32) (s4 : Sm P 0 64 z104.toInt z204.toInt z304.toInt) (s5 : Sm P 64 128 z105.toInt z205.toInt z305.toInt) (s6 : Sm P 128 192 z106.toInt z206.toInt z306.toInt) (s7 : Sm P 192 256 z107.toInt z207.toInt z307.toInt) (k3 : z403.toInt = 0 → Sm P 128 256 z103.toInt z203.toInt z303.toInt) :
    Met Bupd4_3 Z a0 h0 #[(.ref a1), (.int (3 : Int32))] (M4 a1 a2 a3 a4 a5 a6 a7 q0 q1 q2 q3 z101 z201 z301 z102 z202 z302 z103 z203 z303 z104 z204 z304 z105 z205 z305 z106 z206 z306 z107 z207 z307 z401 z402 z403) (fun v ds => ∃ y30 y31 y32 y33 : Int32, (Sm P 128 256 y30.toInt y31.toInt y32.toInt) ∧ Ret none (M4 a1 a2 a3 a4 a5 a6 a7 q0 q1 q2 q3 z101 z201 z301 z102 z202 z302 y30 y31 y32 z104 z204 z304 z105 z205 z305 z106 z206 z306 z107 z207 z307 z401 z402 y33) v ds) := by
  refine Met.of pn16 (ls := #[.val (.ref a1), .val (.int (3 : Int32))]) (fun m => by first | (simp [entryFrame, mkF, argsToLocals, Value.category, Bupd4_3]; done) | rfl) ?_
  refine go_iloadN 1 rfl d16_0 rfl ?_
  refine go_aloadN 2 rfl d16_1 rfl rfl ?_
  refine go_get 0 0 5 rfl d16_2 rfl rfl rfl (wd hw 27 rfl) ?_
  refine go_icmp 45 8 rfl (by decide) rfl d16_5 rfl (fun (hc5 : (4 : Int) ≤ (3 : Int)) => absurd hc5 (by decide)) (fun (hc5 : ¬ ((4 : Int) ≤ (3 : Int))) => ?_)
  refine go_aloadN 9 rfl d16_8 rfl rfl ?_
  refine go_get 0 6 12 rfl d16_9 rfl rfl rfl (wd hw 42 rfl) ?_
  refine go_iloadN 13 rfl d16_12 rfl ?_
  refine go_zaload 14 rfl d16_13 rfl (Mo.el (i := 6) rfl (by decide) rfl) ?_
  refine go_if 45 17 rfl (by decide) rfl d16_14 rfl (fun (hc14_60 : z403.toInt = 0) => ?_) (fun (hc14_60 : ¬ (z403.toInt = 0)) => ?_)
  · exact go_return d16_45 rfl rfl (by decide) (by decide) ⟨_, _, _, _, k3 hc14_60, rfl, rfl⟩
  · refine go_aloadN 18 rfl d16_17 rfl rfl ?_
    refine go_get 0 6 21 rfl d16_18 rfl rfl rfl (wd hw 42 rfl) ?_
    refine go_iloadN 22 rfl d16_21 rfl ?_
    refine go_iconst (0 : Int32) 23 rfl d16_22 rfl ?_
    refine go_zastore 6 24 rfl d16_23 rfl rfl (by decide) (lbe rfl) ?_
    refine go_aloadN 25 rfl d16_24 rfl rfl ?_
    refine go_iconst (2 : Int32) 26 rfl d16_25 rfl ?_
    refine go_iloadN 27 rfl d16_26 rfl ?_
    refine go_imul 28 rfl d16_27 rfl ?_
    refine go_callP (host := "") 31 rfl d16_28 (Or.inl (wd hw 80 rfl)) (wd hw 81 rfl) (wd hw 82 rfl) (wd hw 9 rfl) (wd hw 10 rfl) (wd hw 83 rfl) (by decide) (Mo.exa (i := 0) rfl) (m_updL Z a0 hw h0 a1 a2 a3 a4 a5 a6 a7 [(.long q0), (.long q1), (.long q2), (.long q3)] [(.long (0 : Int64)), (.long (0 : Int64)), (.long (0 : Int64)), (.long (0 : Int64))] [(.int (0 : Int32)), (.int z101), (.int z102), (.int z103), (.int z104), (.int z105), (.int z106), (.int z107)] [(.int (0 : Int32)), (.int z201), (.int z202), (.int z203), (.int z204), (.int z205), (.int z206), (.int z207)] [(.int (0 : Int32)), (.int z301), (.int z302), (.int z303), (.int z304), (.int z305), (.int z306), (.int z307)] [(.int (0 : Int32)), (.int z401), (.int z402), (.int (0 : Int32))] (6 : Int32) (4 : Int32) (by decide)) (argsL := [(.int (6 : Int32))]) (rest := []) rfl (ps := [.int]) (by decide +kernel) rfl rfl 0 rfl (by decide) (by decide) (by decide) (by decide) ?_
    rintro _ _ ⟨rfl, rfl⟩
    show Go Bupd4_3 Z a0 h0 _ 0 0 (M4 a1 a2 a3 a4 a5 a6 a7 q0 q1 q2 q3 z101 z201 z301 z102 z202 z302 z103 z203 z303 z104 z204 z304 z105 z205 z305 z106 z206 z306 z107 z207 z307 z401 z402 (0 : Int32)) 31 #[.val (.ref a1), .val (.int (3 : Int32))] []
    refine go_aloadN 32 rfl d16_31 rfl rfl ?_
    refine go_iconst (2 : Int32) 33 rfl d16_32 rfl ?_
    refine go_iloadN 34 rfl d16_33 rfl ?_
    refine go_imul 35 rfl d16_34 rfl ?_
    refine go_iconst (1 : Int32) 36 rfl d16_35 rfl ?_
    refine go_iadd 37 rfl d16_36 rfl ?_
    refine go_callP (host := "") 40 rfl d16_37 (Or.inl (wd hw 80 rfl)) (wd hw 81 rfl) (wd hw 82 rfl) (wd hw 9 rfl) (wd hw 10 rfl) (wd hw 83 rfl) (by decide) (Mo.exa (i := 0) rfl) (m_updL Z a0 hw h0 a1 a2 a3 a4 a5 a6 a7 [(.long q0), (.long q1), (.long q2), (.long q3)] [(.long (0 : Int64)), (.long (0 : Int64)), (.long (0 : Int64)), (.long (0 : Int64))] [(.int (0 : Int32)), (.int z101), (.int z102), (.int z103), (.int z104), (.int z105), (.int z106), (.int z107)] [(.int (0 : Int32)), (.int z201), (.int z202), (.int z203), (.int z204), (.int z205), (.int z206), (.int z207)] [(.int (0 : Int32)), (.int z301), (.int z302), (.int z303), (.int z304), (.int z305), (.int z306), (.int z307)] [(.int (0 : Int32)), (.int z401), (.int z402), (.int (0 : Int32))] (7 : Int32) (4 : Int32) (by decide)) (argsL := [(.int (7 : Int32))]) (rest := []) rfl (ps := [.int]) (by decide +kernel) rfl rfl 0 rfl (by decide) (by decide) (by decide) (by decide) ?_
    rintro _ _ ⟨rfl, rfl⟩
    show Go Bupd4_3 Z a0 h0 _ 0 0 (M4 a1 a2 a3 a4 a5 a6 a7 q0 q1 q2 q3 z101 z201 z301 z102 z202 z302 z103 z203 z303 z104 z204 z304 z105 z205 z305 z106 z206 z306 z107 z207 z307 z401 z402 (0 : Int32)) 40 #[.val (.ref a1), .val (.int (3 : Int32))] []
    refine go_aloadN 41 rfl d16_40 rfl rfl ?_
    refine go_iloadN 42 rfl d16_41 rfl ?_
    refine go_callP (host := "") 45 rfl d16_42 (Or.inl (wd hw 92 rfl)) (wd hw 93 rfl) (wd hw 94 rfl) (wd hw 9 rfl) (wd hw 10 rfl) (wd hw 95 rfl) (by decide) (Mo.exa (i := 0) rfl) (m_mrg4_3 Z a0 hw h0 P a1 a2 a3 a4 a5 a6 a7 q0 q1 q2 q3 z101 z201 z301 z102 z202 z302 z103 z203 z303 z104 z204 z304 z105 z205 z305 z106 z206 z306 z107 z207 z307 z401 z402 (0 : Int32) s6 s7) (argsL := [(.int (3 : Int32))]) (rest := []) rfl (ps := [.int]) (by decide +kernel) rfl rfl 0 rfl (by decide) (by decide) (by decide) (by decide) ?_
    rintro _ _ ⟨z607, z608, z609, hz607, rfl, rfl⟩
    show Go Bupd4_3 Z a0 h0 _ 0 0 (M4 a1 a2 a3 a4 a5 a6 a7 q0 q1 q2 q3 z101 z201 z301 z102 z202 z302 z607 z608 z609 z104 z204 z304 z105 z205 z305 z106 z206 z306 z107 z207 z307 z401 z402 (0 : Int32)) 45 #[.val (.ref a1), .val (.int (3 : Int32))] []
    exact go_return d16_45 rfl rfl (by decide) (by decide) ⟨_, _, _, _, hz607, rfl, rfl⟩
def Bupd4_1 : Bdy := (⟨"com/example/clauseline/clauseline/service/TakenPieces", "update", "(I)V"⟩, prog_101_method_6_code, 2, none, ({ frames := 4, cells := 0, slots := 0, locals := 59 } : Room))
theorem m_upd4_1 (Z : State) (a0 : Array Value) (hw : ∀ d ∈ tables_1, d.before a0 Z = true) (h0 : Heap) (P : Fr1) (a1 a2 a3 a4 a5 a6 a7 : Addr) (q0 q1 q2 q3 : Int64) (z101 z201 z301 z102 z202 z302 z103 z203 z303 z104 z204 z304 z105 z205 z305 z106 z206 z306 z107 z207 z307 z401 z402 z403 : Int32) (s4 : Sm P 0 64 z104.toInt z204.toInt z304.toInt) (s5 : Sm P 64 128 z105.toInt z205.toInt z305.toInt) (s6 : Sm P 128 192 z106.toInt z206.toInt z306.toInt) (s7 : Sm P 192 256 z107.toInt z207.toInt z307.toInt) (k1 : z401.toInt = 0 → Sm P 0 256 z101.toInt z201.toInt z301.toInt ∧ Sm P 0 128 z102.toInt z202.toInt z302.toInt ∧ Sm P 128 256 z103.toInt z203.toInt z303.toInt) (k2 : z402.toInt = 0 → Sm P 0 128 z102.toInt z202.toInt z302.toInt) (k3 : z403.toInt = 0 → Sm P 128 256 z103.toInt z203.toInt z303.toInt) :
    Met Bupd4_1 Z a0 h0 #[(.ref a1), (.int (1 : Int32))] (M4 a1 a2 a3 a4 a5 a6 a7 q0 q1 q2 q3 z101 z201 z301 z102 z202 z302 z103 z203 z303 z104 z204 z304 z105 z205 z305 z106 z206 z306 z107 z207 z307 z401 z402 z403) (fun v ds => ∃ y10 y11 y12 y13 y20 y21 y22 y23 y30 y31 y32 y33 : Int32, (Sm P 0 256 y10.toInt y11.toInt y12.toInt ∧ Sm P 0 128 y20.toInt y21.toInt y22.toInt ∧ Sm P 128 256 y30.toInt y31.toInt y32.toInt) ∧ Ret none (M4 a1 a2 a3 a4 a5 a6 a7 q0 q1 q2 q3 y10 y11 y12 y20 y21 y22 y30 y31 y32 z104 z204 z304 z105 z205 z305 z106 z206 z306 z107 z207 z307 y13 y23 y33) v ds) := by
  refine Met.of pn16 (ls := #[.val (.ref a1), .val (.int (1 : Int32))]) (fun m => by first | (simp [entryFrame, mkF, argsToLocals, Value.category, Bupd4_1]; done) | rfl) ?_
  refine go_iloadN 1 rfl d16_0 rfl ?_
  refine go_aloadN 2 rfl d16_1 rfl rfl ?_
  refine go_get 0 0 5 rfl d16_2 rfl rfl rfl (wd hw 27 rfl) ?_
  refine go_icmp 45 8 rfl (by decide) rfl d16_5 rfl (fun (hc5 : (4 : Int) ≤ (1 : Int)) => absurd hc5 (by decide)) (fun (hc5 : ¬ ((4 : Int) ≤ (1 : Int))) => ?_)
  refine go_aloadN 9 rfl d16_8 rfl rfl ?_
  refine go_get 0 6 12 rfl d16_9 rfl rfl rfl (wd hw 42 rfl) ?_
  refine go_iloadN 13 rfl d16_12 rfl ?_
  refine go_zaload 14 rfl d16_13 rfl (Mo.el (i := 6) rfl (by decide) rfl) ?_
  refine go_if 45 17 rfl (by decide) rfl d16_14 rfl (fun (hc14_61 : z401.toInt = 0) => ?_) (fun (hc14_61 : ¬ (z401.toInt = 0)) => ?_)
  · exact go_return d16_45 rfl rfl (by decide) (by decide) ⟨_, _, _, _, _, _, _, _, _, _, _, _, k1 hc14_61, rfl, rfl⟩
  · refine go_aloadN 18 rfl d16_17 rfl rfl ?_
    refine go_get 0 6 21 rfl d16_18 rfl rfl rfl (wd hw 42 rfl) ?_
    refine go_iloadN 22 rfl d16_21 rfl ?_
    refine go_iconst (0 : Int32) 23 rfl d16_22 rfl ?_
    refine go_zastore 6 24 rfl d16_23 rfl rfl (by decide) (lbe rfl) ?_
    refine go_aloadN 25 rfl d16_24 rfl rfl ?_
    refine go_iconst (2 : Int32) 26 rfl d16_25 rfl ?_
    refine go_iloadN 27 rfl d16_26 rfl ?_
    refine go_imul 28 rfl d16_27 rfl ?_
    refine go_callP (host := "") 31 rfl d16_28 (Or.inl (wd hw 80 rfl)) (wd hw 81 rfl) (wd hw 82 rfl) (wd hw 9 rfl) (wd hw 10 rfl) (wd hw 83 rfl) (by decide) (Mo.exa (i := 0) rfl) (m_upd4_2 Z a0 hw h0 P a1 a2 a3 a4 a5 a6 a7 q0 q1 q2 q3 z101 z201 z301 z102 z202 z302 z103 z203 z303 z104 z204 z304 z105 z205 z305 z106 z206 z306 z107 z207 z307 (0 : Int32) z402 z403 s4 s5 s6 s7 k2) (argsL := [(.int (2 : Int32))]) (rest := []) rfl (ps := [.int]) (by decide +kernel) rfl rfl 0 rfl (by decide) (by decide) (by decide) (by decide) ?_
    rintro _ _ ⟨z610, z611, z612, z613, hz610, rfl, rfl⟩
    show Go Bupd4_1 Z a0 h0 _ 0 0 (M4 a1 a2 a3 a4 a5 a6 a7 q0 q1 q2 q3 z101 z201 z301 z610 z611 z612 z103 z203 z303 z104 z204 z304 z105 z205 z305 z106 z206 z306 z107 z207 z307 (0 : Int32) z613 z403) 31 #[.val (.ref a1), .val (.int (1 : Int32))] []
    refine go_aloadN 32 rfl d16_31 rfl rfl ?_
    refine go_iconst (2 : Int32) 33 rfl d16_32 rfl ?_
    refine go_iloadN 34 rfl d16_33 rfl ?_
    refine go_imul 35 rfl d16_34 rfl ?_
    refine go_iconst (1 : Int32) 36 rfl d16_35 rfl ?_
    refine go_iadd 37 rfl d16_36 rfl ?_
    refine go_callP (host := "") 40 rfl d16_37 (Or.inl (wd hw 80 rfl)) (wd hw 81 rfl) (wd hw 82 rfl) (wd hw 9 rfl) (wd hw 10 rfl) (wd hw 83 rfl) (by decide) (Mo.exa (i := 0) rfl) (m_upd4_3 Z a0 hw h0 P a1 a2 a3 a4 a5 a6 a7 q0 q1 q2 q3 z101 z201 z301 z610 z611 z612 z103 z203 z303 z104 z204 z304 z105 z205 z305 z106 z206 z306 z107 z207 z307 (0 : Int32) z613 z403 s4 s5 s6 s7 k3) (argsL := [(.int (3 : Int32))]) (rest := []) rfl (ps := [.int]) (by decide +kernel) rfl rfl 0 rfl (by decide) (by decide) (by decide) (by decide) ?_
    rintro _ _ ⟨z614, z615, z616, z617, hz614, rfl, rfl⟩
    show Go Bupd4_1 Z a0 h0 _ 0 0 (M4 a1 a2 a3 a4 a5 a6 a7 q0 q1 q2 q3 z101 z201 z301 z610 z611 z612 z614 z615 z616 z104 z204 z304 z105 z205 z305 z106 z206 z306 z107 z207 z307 (0 : Int32) z613 z617) 40 #[.val (.ref a1), .val (.int (1 : Int32))] []
    refine go_aloadN 41 rfl d16_40 rfl rfl ?_
    refine go_iloadN 42 rfl d16_41 rfl ?_
    refine go_callP (host := "") 45 rfl d16_42 (Or.inl (wd hw 92 rfl)) (wd hw 93 rfl) (wd hw 94 rfl) (wd hw 9 rfl) (wd hw 10 rfl) (wd hw 95 rfl) (by decide) (Mo.exa (i := 0) rfl) (m_mrg4_1 Z a0 hw h0 P a1 a2 a3 a4 a5 a6 a7 q0 q1 q2 q3 z101 z201 z301 z610 z611 z612 z614 z615 z616 z104 z204 z304 z105 z205 z305 z106 z206 z306 z107 z207 z307 (0 : Int32) z613 z617 hz610 hz614) (argsL := [(.int (1 : Int32))]) (rest := []) rfl (ps := [.int]) (by decide +kernel) rfl rfl 0 rfl (by decide) (by decide) (by decide) (by decide) ?_
    rintro _ _ ⟨z618, z619, z620, hz618, rfl, rfl⟩
    show Go Bupd4_1 Z a0 h0 _ 0 0 (M4 a1 a2 a3 a4 a5 a6 a7 q0 q1 q2 q3 z618 z619 z620 z610 z611 z612 z614 z615 z616 z104 z204 z304 z105 z205 z305 z106 z206 z306 z107 z207 z307 (0 : Int32) z613 z617) 45 #[.val (.ref a1), .val (.int (1 : Int32))] []
    exact go_return d16_45 rfl rfl (by decide) (by decide) ⟨_, _, _, _, _, _, _, _, _, _, _, _, ⟨hz618, hz610, hz614⟩, rfl, rfl⟩
theorem d17_0 : decode prog_101_method_11_code 0 = .ok (.iload_n 0, 1) := by decide +kernel
theorem d17_1 : decode prog_101_method_11_code 1 = .ok (.istore_n 1, 1) := by decide +kernel
theorem d17_2 : decode prog_101_method_11_code 2 = .ok (.iload_n 1, 1) := by decide +kernel
theorem d17_3 : decode prog_101_method_11_code 3 = .ok (.iconst 2, 1) := by decide +kernel
theorem d17_4 : decode prog_101_method_11_code 4 = .ok (.irem, 1) := by decide +kernel
theorem d17_5 : decode prog_101_method_11_code 5 = .ok (.iconst 1, 1) := by decide +kernel
theorem d17_6 : decode prog_101_method_11_code 6 = .ok (.if_icmp .ne 10, 3) := by decide +kernel
theorem d17_9 : decode prog_101_method_11_code 9 = .ok (.iload_n 1, 1) := by decide +kernel
theorem d17_10 : decode prog_101_method_11_code 10 = .ok (.iconst 2, 1) := by decide +kernel
theorem d17_11 : decode prog_101_method_11_code 11 = .ok (.idiv, 1) := by decide +kernel
theorem d17_12 : decode prog_101_method_11_code 12 = .ok (.istore_n 1, 1) := by decide +kernel
theorem d17_13 : decode prog_101_method_11_code 13 = .ok (.goto (-11), 3) := by decide +kernel
theorem d17_16 : decode prog_101_method_11_code 16 = .ok (.iload_n 1, 1) := by decide +kernel
theorem d17_17 : decode prog_101_method_11_code 17 = .ok (.ifCond .ne 7, 3) := by decide +kernel
theorem d17_20 : decode prog_101_method_11_code 20 = .ok (.iconst 0, 1) := by decide +kernel
theorem d17_21 : decode prog_101_method_11_code 21 = .ok (.goto 6, 3) := by decide +kernel
theorem d17_27 : decode prog_101_method_11_code 27 = .ok (.ireturn, 1) := by decide +kernel
theorem pn17 : plainFor (⟨"com/example/clauseline/clauseline/service/TakenPieces", "next", "(I)I"⟩ : MethodName) = true := by first | (apply plainFor_of_name; simp [plainName, overriddenIn]; done) | decide +kernel
def B17_65 : Bdy := (⟨"com/example/clauseline/clauseline/service/TakenPieces", "next", "(I)I"⟩, prog_101_method_11_code, 2, (some .int), ({ frames := 0, cells := 0, slots := 0, locals := 0 } : Room))
theorem mt65 (Z : State) (a0 : Array Value) (hw : ∀ d ∈ tables_1, d.before a0 Z = true) (h0 : Heap)  :
    Met B17_65 Z a0 h0 #[(.int (1 : Int32))] [] (Ret (some (.int (0 : Int32))) []) := by
  refine Met.of pn17 (ls := #[.val (.int (1 : Int32)), .unset]) (fun m => by first | (simp [entryFrame, mkF, argsToLocals, Value.category, B17_65]; done) | rfl) ?_
  refine go_iloadN 1 rfl d17_0 rfl ?_
  refine go_istoreN #[.val (.int (1 : Int32)), .val (.int (1 : Int32))] 2 rfl d17_1 rfl rfl ?_
  refine go_iloadN 3 rfl d17_2 rfl ?_
  refine go_iconst (2 : Int32) 4 rfl d17_3 rfl ?_
  refine go_irem 5 rfl d17_4 rfl (by decide) ?_
  refine go_iconst (1 : Int32) 6 rfl d17_5 rfl ?_
  refine go_icmp 16 9 rfl (by decide) rfl d17_6 rfl (fun (hc6 : (1 : Int) ≠ (1 : Int)) => absurd hc6 (by decide)) (fun (hc6 : ¬ ((1 : Int) ≠ (1 : Int))) => ?_)
  refine go_iloadN 10 rfl d17_9 rfl ?_
  refine go_iconst (2 : Int32) 11 rfl d17_10 rfl ?_
  refine go_idiv 12 rfl d17_11 rfl (by decide) ?_
  refine go_istoreN #[.val (.int (1 : Int32)), .val (.int (0 : Int32))] 13 rfl d17_12 rfl rfl ?_
  refine go_goto 2 (by decide) rfl d17_13 ?_
  refine go_iloadN 3 rfl d17_2 rfl ?_
  refine go_iconst (2 : Int32) 4 rfl d17_3 rfl ?_
  refine go_irem 5 rfl d17_4 rfl (by decide) ?_
  refine go_iconst (1 : Int32) 6 rfl d17_5 rfl ?_
  refine go_icmp 16 9 rfl (by decide) rfl d17_6 rfl (fun (hc6 : (0 : Int) ≠ (1 : Int)) => ?_) (fun (hc6 : ¬ ((0 : Int) ≠ (1 : Int))) => absurd hc6 (by decide))
  refine go_iloadN 17 rfl d17_16 rfl ?_
  refine go_if 24 20 rfl (by decide) rfl d17_17 rfl (fun (hc17 : (0 : Int) ≠ 0) => absurd hc17 (by decide)) (fun (hc17 : ¬ ((0 : Int) ≠ 0)) => ?_)
  refine go_iconst (0 : Int32) 21 rfl d17_20 rfl ?_
  refine go_goto 27 (by decide) rfl d17_21 ?_
  exact go_ireturn d17_27 rfl (Or.inl rfl) rfl rfl (by decide) (by decide) ⟨rfl, rfl⟩
theorem d14_0 : decode prog_101_method_4_code 0 = .ok (.iload_n 1, 1) := by decide +kernel
theorem d14_1 : decode prog_101_method_4_code 1 = .ok (.bipush 64, 2) := by decide +kernel
theorem d14_3 : decode prog_101_method_4_code 3 = .ok (.idiv, 1) := by decide +kernel
theorem d14_4 : decode prog_101_method_4_code 4 = .ok (.istore_n 3, 1) := by decide +kernel
theorem d14_5 : decode prog_101_method_4_code 5 = .ok (.iload_n 1, 1) := by decide +kernel
theorem d14_6 : decode prog_101_method_4_code 6 = .ok (.bipush 64, 2) := by decide +kernel
theorem d14_8 : decode prog_101_method_4_code 8 = .ok (.irem, 1) := by decide +kernel
theorem d14_9 : decode prog_101_method_4_code 9 = .ok (.istore 4, 2) := by decide +kernel
theorem d14_11 : decode prog_101_method_4_code 11 = .ok (.aload_n 0, 1) := by decide +kernel
theorem d14_12 : decode prog_101_method_4_code 12 = .ok (.iload_n 3, 1) := by decide +kernel
theorem d14_13 : decode prog_101_method_4_code 13 = .ok (.iload 4, 2) := by decide +kernel
theorem d14_15 : decode prog_101_method_4_code 15 = .ok (.iload_n 2, 1) := by decide +kernel
theorem d14_16 : decode prog_101_method_4_code 16 = .ok (.invokevirtual 58, 3) := by decide +kernel
theorem d14_19 : decode prog_101_method_4_code 19 = .ok (.istore 5, 2) := by decide +kernel
theorem d14_21 : decode prog_101_method_4_code 21 = .ok (.iload 5, 2) := by decide +kernel
theorem d14_23 : decode prog_101_method_4_code 23 = .ok (.ifCond .ge 8, 3) := by decide +kernel
theorem d14_26 : decode prog_101_method_4_code 26 = .ok (.aload_n 0, 1) := by decide +kernel
theorem d14_27 : decode prog_101_method_4_code 27 = .ok (.iconst 1, 1) := by decide +kernel
theorem d14_28 : decode prog_101_method_4_code 28 = .ok (.invokevirtual 62, 3) := by decide +kernel
theorem d14_31 : decode prog_101_method_4_code 31 = .ok (.aload_n 0, 1) := by decide +kernel
theorem d14_32 : decode prog_101_method_4_code 32 = .ok (.getfield 36, 3) := by decide +kernel
theorem d14_35 : decode prog_101_method_4_code 35 = .ok (.aload_n 0, 1) := by decide +kernel
theorem d14_36 : decode prog_101_method_4_code 36 = .ok (.getfield 21, 3) := by decide +kernel
theorem d14_39 : decode prog_101_method_4_code 39 = .ok (.iload_n 3, 1) := by decide +kernel
theorem d14_40 : decode prog_101_method_4_code 40 = .ok (.iadd, 1) := by decide +kernel
theorem d14_41 : decode prog_101_method_4_code 41 = .ok (.iaload, 1) := by decide +kernel
theorem d14_42 : decode prog_101_method_4_code 42 = .ok (.bipush 64, 2) := by decide +kernel
theorem d14_44 : decode prog_101_method_4_code 44 = .ok (.iload 4, 2) := by decide +kernel
theorem d14_46 : decode prog_101_method_4_code 46 = .ok (.isub, 1) := by decide +kernel
theorem d14_47 : decode prog_101_method_4_code 47 = .ok (.invokestatic 65, 3) := by decide +kernel
theorem d14_50 : decode prog_101_method_4_code 50 = .ok (.istore 6, 2) := by decide +kernel
theorem d14_52 : decode prog_101_method_4_code 52 = .ok (.aload_n 0, 1) := by decide +kernel
theorem d14_53 : decode prog_101_method_4_code 53 = .ok (.getfield 21, 3) := by decide +kernel
theorem d14_56 : decode prog_101_method_4_code 56 = .ok (.iload_n 3, 1) := by decide +kernel
theorem d14_57 : decode prog_101_method_4_code 57 = .ok (.iadd, 1) := by decide +kernel
theorem d14_58 : decode prog_101_method_4_code 58 = .ok (.invokestatic 68, 3) := by decide +kernel
theorem d14_61 : decode prog_101_method_4_code 61 = .ok (.istore 7, 2) := by decide +kernel
theorem d14_63 : decode prog_101_method_4_code 63 = .ok (.iload 5, 2) := by decide +kernel
theorem d14_65 : decode prog_101_method_4_code 65 = .ok (.ifCond .ge 168, 3) := by decide +kernel
theorem d14_68 : decode prog_101_method_4_code 68 = .ok (.iload 7, 2) := by decide +kernel
theorem d14_70 : decode prog_101_method_4_code 70 = .ok (.ifCond .le 163, 3) := by decide +kernel
theorem d14_233 : decode prog_101_method_4_code 233 = .ok (.iload 5, 2) := by decide +kernel
theorem d14_235 : decode prog_101_method_4_code 235 = .ok (.ireturn, 1) := by decide +kernel
theorem pn14 : plainFor (⟨"com/example/clauseline/clauseline/service/TakenPieces", "firstFree", "(II)I"⟩ : MethodName) = true := by first | (apply plainFor_of_name; simp [plainName, overriddenIn]; done) | decide +kernel
def Bff1 : Bdy := (⟨"com/example/clauseline/clauseline/service/TakenPieces", "firstFree", "(II)I"⟩, prog_101_method_4_code, 11, (some .int), ({ frames := 4, cells := 0, slots := 0, locals := 67 } : Room))
theorem lp1_0 (Z : State) (a0 : Array Value) (hw : ∀ d ∈ tables_1, d.before a0 Z = true) (h0 : Heap) (P : Fr1) (a1 a2 a3 a4 a5 a6 a7 : Addr) (q0 : Int64) (z101 z201 z301 : Int32) (p4 p5 p7 p8 p9 : Int32) (s50 : Slot) (h50 : s50 = .unset ∨ ∃ w, s50 = .val w ∧ w.category = 1) (s51 : Slot) (h51 : s51 = .unset ∨ ∃ w, s51 = .val w ∧ w.category = 1) (s52 : Slot) (h52 : s52 = .unset ∨ ∃ w, s52 = .val w ∧ w.category = 1) (h5 : 0 < p5.toInt ∧ p5.toInt ≤ 256) (hF0 : 0 ≤ p4.toInt) (e0 : Fre P 0 q0) (s1 : Sm P 0 64 z101.toInt z201.toInt z301.toInt) (hC : ∀ x, 64 ≤ x → ¬ P x) (hI : LI P p4.toInt p5.toInt 64 p7.toInt) :
    Go Bff1 Z a0 h0 (fun v ds => Inv1 P q0 z101 z201 z301 ∧ ∃ z : Int32, Ans P p4.toInt p5.toInt z.toInt ∧ Ret (some (.int z)) (M1 a1 a2 a3 a4 a5 a6 a7 q0 z101 z201 z301) v ds) 0 0 (M1 a1 a2 a3 a4 a5 a6 a7 q0 z101 z201 z301) 63 #[.val (.ref a1), .val (.int p4), .val (.int p5), .val (.int p8), .val (.int p9), .val (.int (-1 : Int32)), .val (.int p7), .val (.int (0 : Int32)), s50, s51, s52] [] := by
  show Go Bff1 Z a0 h0 _ 0 0 (M1 a1 a2 a3 a4 a5 a6 a7 q0 z101 z201 z301) 63 #[.val (.ref a1), .val (.int p4), .val (.int p5), .val (.int p8), .val (.int p9), .val (.int (-1 : Int32)), .val (.int p7), .val (.int (0 : Int32)), s50, s51, s52] []
  have g0 := hI.r0; have g1 := hI.r1
  refine go_iload 65 rfl d14_63 rfl ?_
  refine go_if 233 68 rfl (by decide) rfl d14_65 rfl (fun (hc65 : 0 ≤ (-1 : Int)) => absurd hc65 (by decide)) (fun (hc65 : ¬ (0 ≤ (-1 : Int))) => ?_)
  refine go_iload 70 rfl d14_68 rfl ?_
  refine go_if 233 73 rfl (by decide) rfl d14_70 rfl (fun (hc70 : (0 : Int) ≤ 0) => ?_) (fun (hc70 : ¬ ((0 : Int) ≤ 0)) => absurd hc70 (by decide))
  refine go_iload 235 rfl d14_233 rfl ?_
  exact go_ireturn d14_235 rfl (Or.inl rfl) rfl rfl (by decide) (by decide) ⟨(Inv1.mk e0 s1), (-1 : Int32), (show Ans P _ _ (-1 : Int32).toInt from hI.fin h5.1 hC), rfl, rfl⟩
theorem m_ff1 (Z : State) (a0 : Array Value) (hw : ∀ d ∈ tables_1, d.before a0 Z = true) (h0 : Heap) (P : Fr1) (a1 a2 a3 a4 a5 a6 a7 : Addr) (q0 : Int64) (z101 z201 z301 : Int32) (p4 p5 : Int32) (hV : Inv1 P q0 z101 z201 z301) (h5 : 0 < p5.toInt ∧ p5.toInt ≤ 256) (hF0 : 0 ≤ p4.toInt) (hF1 : p4.toInt < 64) (hC : ∀ x, 64 ≤ x → ¬ P x) :
    Met Bff1 Z a0 h0 #[(.ref a1), (.int p4), (.int p5)] (M1 a1 a2 a3 a4 a5 a6 a7 q0 z101 z201 z301) (fun v ds => Inv1 P q0 z101 z201 z301 ∧ ∃ z : Int32, Ans P p4.toInt p5.toInt z.toInt ∧ Ret (some (.int z)) (M1 a1 a2 a3 a4 a5 a6 a7 q0 z101 z201 z301) v ds) := by
  refine Met.of pn14 (ls := #[.val (.ref a1), .val (.int p4), .val (.int p5), .unset, .unset, .unset, .unset, .unset, .unset, .unset, .unset]) (fun m => by first | (simp [entryFrame, mkF, argsToLocals, Value.category, Bff1]; done) | rfl) ?_
  refine go_iloadN 1 rfl d14_0 rfl ?_
  refine go_bipush (64 : Int32) 3 rfl d14_1 rfl ?_
  refine go_idiv 4 rfl d14_3 rfl (by decide) ?_
  have ed := (c_idiv p4 (64 : Int32) 64 rfl (by decide)).1 (by omega)
  have ec : p4 / (64 : Int32) = (0 : Int32) ∧ (0 ≤ p4.toInt ∧ p4.toInt < 64) := by
    have : (p4 / (64 : Int32)).toInt = 0 := by omega
    exact ⟨i32_of this rfl, by omega⟩
  obtain ⟨ec, hr⟩ := ec
  · rw [ec]
    refine go_istoreN #[.val (.ref a1), .val (.int p4), .val (.int p5), .val (.int (0 : Int32)), .unset, .unset, .unset, .unset, .unset, .unset, .unset] 5 rfl d14_4 rfl rfl ?_
    refine go_iloadN 6 rfl d14_5 rfl ?_
    refine go_bipush (64 : Int32) 8 rfl d14_6 rfl ?_
    refine go_irem 9 rfl d14_8 rfl (by decide) ?_
    have er := (c_irem p4 (64 : Int32) 64 rfl).1 (by omega)
    generalize p4 % (64 : Int32) = p9 at er ⊢
    refine go_istore #[.val (.ref a1), .val (.int p4), .val (.int p5), .val (.int (0 : Int32)), .val (.int p9), .unset, .unset, .unset, .unset, .unset, .unset] 11 rfl d14_9 rfl rfl ?_
    refine go_aloadN 12 rfl d14_11 rfl rfl ?_
    refine go_iloadN 13 rfl d14_12 rfl ?_
    refine go_iload 15 rfl d14_13 rfl ?_
    refine go_iloadN 16 rfl d14_15 rfl ?_
    refine go_callP (host := "") 19 rfl d14_16 (Or.inl (wd hw 76 rfl)) (wd hw 77 rfl) (wd hw 78 rfl) (wd hw 9 rfl) (wd hw 10 rfl) (wd hw 79 rfl) (by decide) (Mo.exa (i := 0) rfl) (m_scan Z a0 hw h0 P a1 a2 a3 a4 a5 a6 a7 [(.long q0)] [(.long (0 : Int64))] [(.int (0 : Int32)), (.int z101)] [(.int (0 : Int32)), (.int z201)] [(.int (0 : Int32)), (.int z301)] [(.int (0 : Int32))] (0 : Int32) (1 : Int32) p9 p5 q0 0 64 p4.toInt rfl rfl (by decide) hV.e0 rfl (by decide) (by omega) h5 (by decide) (by omega)) (argsL := [(.int (0 : Int32)), (.int p9), (.int p5)]) (rest := []) rfl (ps := [.int, .int, .int]) (by decide +kernel) rfl rfl 0 rfl (by decide) (by decide) (by decide) (by decide) ?_
    rintro _ _ ⟨z621, rfl, rfl, hz621⟩
    show Go Bff1 Z a0 h0 _ 0 0 (M1 a1 a2 a3 a4 a5 a6 a7 q0 z101 z201 z301) 19 #[.val (.ref a1), .val (.int p4), .val (.int p5), .val (.int (0 : Int32)), .val (.int p9), .unset, .unset, .unset, .unset, .unset, .unset] [(.int z621)]
    refine go_istore #[.val (.ref a1), .val (.int p4), .val (.int p5), .val (.int (0 : Int32)), .val (.int p9), .val (.int z621), .unset, .unset, .unset, .unset, .unset] 21 rfl d14_19 rfl rfl ?_
    refine go_iload 23 rfl d14_21 rfl ?_
    refine go_if 31 26 rfl (by decide) rfl d14_23 rfl (fun (hc23_62 : 0 ≤ z621.toInt) => ?_) (fun (hc23_62 : ¬ (0 ≤ z621.toInt)) => ?_)
    · have g2 := hV.s1.l0; have g3 := hV.s1.l1
      refine go_aloadN 32 rfl d14_31 rfl rfl ?_
      refine go_get 0 4 35 rfl d14_32 rfl rfl rfl (wd hw 37 rfl) ?_
      refine go_aloadN 36 rfl d14_35 rfl rfl ?_
      refine go_get 0 0 39 rfl d14_36 rfl rfl rfl (wd hw 27 rfl) ?_
      refine go_iloadN 40 rfl d14_39 rfl ?_
      refine go_iadd 41 rfl d14_40 rfl ?_
      refine go_iaload 42 rfl d14_41 rfl (Mo.el (i := 4) rfl (by decide) rfl) ?_
      refine go_bipush (64 : Int32) 44 rfl d14_42 rfl ?_
      refine go_iload 46 rfl d14_44 rfl ?_
      refine go_isub 47 rfl d14_46 rfl ?_
      have fa1 : ((64 : Int32) - p9).toInt = (64 : Int) - p9.toInt := subE rfl rfl (by omega)
      refine go_callS 50 rfl d14_47 (wd hw 84 rfl) (wd hw 2 rfl) (wd hw 3 rfl) (wd hw 4 rfl) (by decide) (m_min Z a0 hw h0 (mem18 a1 a2 a3 a4 a5 a6 a7 q0 z101 z201 z301) z201 ((64 : Int32) - p9)) (argsL := [(.int z201), (.int ((64 : Int32) - p9))]) (rest := []) rfl (ps := [.int, .int]) (by decide +kernel) rfl rfl 0 rfl (by decide) (by decide) (by decide) (by decide) ?_
      rintro _ _ ⟨z9064, rfl, rfl, hz9064, gz9064⟩
      show Go Bff1 Z a0 h0 _ 0 0 (M1 a1 a2 a3 a4 a5 a6 a7 q0 z101 z201 z301) 50 #[.val (.ref a1), .val (.int p4), .val (.int p5), .val (.int (0 : Int32)), .val (.int p9), .val (.int z621), .unset, .unset, .unset, .unset, .unset] [(.int z9064)]
      have kz9064 : z9064.toInt = z201.toInt ∨ z9064.toInt = ((64 : Int32) - p9).toInt := by rcases gz9064 with h | h <;> rw [h] <;> simp
      refine go_istore #[.val (.ref a1), .val (.int p4), .val (.int p5), .val (.int (0 : Int32)), .val (.int p9), .val (.int z621), .val (.int z9064), .unset, .unset, .unset, .unset] 52 rfl d14_50 rfl rfl ?_
      refine go_aloadN 53 rfl d14_52 rfl rfl ?_
      refine go_get 0 0 56 rfl d14_53 rfl rfl rfl (wd hw 27 rfl) ?_
      refine go_iloadN 57 rfl d14_56 rfl ?_
      refine go_iadd 58 rfl d14_57 rfl ?_
      refine go_callS 61 rfl d14_58 (wd hw 85 rfl) (wd hw 86 rfl) (wd hw 10 rfl) (wd hw 87 rfl) (by decide) (Met.frame (M1 a1 a2 a3 a4 a5 a6 a7 q0 z101 z201 z301) (mt65 Z a0 hw h0)) (argsL := [(.int (1 : Int32))]) (rest := []) rfl (ps := [.int]) (by decide +kernel) rfl rfl 0 rfl (by decide) (by decide) (by decide) (by decide) ?_
      rintro _ _ ⟨_, ⟨rfl, rfl⟩, rfl⟩
      show Go Bff1 Z a0 h0 _ 0 0 (M1 a1 a2 a3 a4 a5 a6 a7 q0 z101 z201 z301) 61 #[.val (.ref a1), .val (.int p4), .val (.int p5), .val (.int (0 : Int32)), .val (.int p9), .val (.int z621), .val (.int z9064), .unset, .unset, .unset, .unset] [(.int (0 : Int32))]
      refine go_istore #[.val (.ref a1), .val (.int p4), .val (.int p5), .val (.int (0 : Int32)), .val (.int p9), .val (.int z621), .val (.int z9064), .val (.int (0 : Int32)), .unset, .unset, .unset] 63 rfl d14_61 rfl rfl ?_
      refine go_iload 65 rfl d14_63 rfl ?_
      refine go_if 233 68 rfl (by decide) rfl d14_65 rfl (fun (hc65 : 0 ≤ z621.toInt) => ?_) (fun (hc65 : ¬ (0 ≤ z621.toInt)) => absurd hc65 (by omega))
      refine go_iload 235 rfl d14_233 rfl ?_
      exact go_ireturn d14_235 rfl (Or.inl rfl) rfl rfl (by decide) (by decide) ⟨hV, _, first_yes h5.1 (by omega) hz621 (by omega), rfl, rfl⟩
    · have hz0 := sc_neg hz621 (by omega)
      obtain rfl : z621 = (-1 : Int32) := i32_of (k := -1) (by omega) rfl
      refine go_aloadN 27 rfl d14_26 rfl rfl ?_
      refine go_iconst (1 : Int32) 28 rfl d14_27 rfl ?_
      refine go_callP (host := "") 31 rfl d14_28 (Or.inl (wd hw 80 rfl)) (wd hw 81 rfl) (wd hw 82 rfl) (wd hw 9 rfl) (wd hw 10 rfl) (wd hw 83 rfl) (by decide) (Mo.exa (i := 0) rfl) (m_updL Z a0 hw h0 a1 a2 a3 a4 a5 a6 a7 [(.long q0)] [(.long (0 : Int64))] [(.int (0 : Int32)), (.int z101)] [(.int (0 : Int32)), (.int z201)] [(.int (0 : Int32)), (.int z301)] [(.int (0 : Int32))] (1 : Int32) (1 : Int32) (by decide)) (argsL := [(.int (1 : Int32))]) (rest := []) rfl (ps := [.int]) (by decide +kernel) rfl rfl 0 rfl (by decide) (by decide) (by decide) (by decide) ?_
      rintro _ _ ⟨rfl, rfl⟩
      show Go Bff1 Z a0 h0 _ 0 0 (M1 a1 a2 a3 a4 a5 a6 a7 q0 z101 z201 z301) 31 #[.val (.ref a1), .val (.int p4), .val (.int p5), .val (.int (0 : Int32)), .val (.int p9), .val (.int (-1 : Int32)), .unset, .unset, .unset, .unset, .unset] []
      have g2 := hV.s1.l0; have g3 := hV.s1.l1
      refine go_aloadN 32 rfl d14_31 rfl rfl ?_
      refine go_get 0 4 35 rfl d14_32 rfl rfl rfl (wd hw 37 rfl) ?_
      refine go_aloadN 36 rfl d14_35 rfl rfl ?_
      refine go_get 0 0 39 rfl d14_36 rfl rfl rfl (wd hw 27 rfl) ?_
      refine go_iloadN 40 rfl d14_39 rfl ?_
      refine go_iadd 41 rfl d14_40 rfl ?_
      refine go_iaload 42 rfl d14_41 rfl (Mo.el (i := 4) rfl (by decide) rfl) ?_
      refine go_bipush (64 : Int32) 44 rfl d14_42 rfl ?_
      refine go_iload 46 rfl d14_44 rfl ?_
      refine go_isub 47 rfl d14_46 rfl ?_
      have fa2 : ((64 : Int32) - p9).toInt = (64 : Int) - p9.toInt := subE rfl rfl (by omega)
      refine go_callS 50 rfl d14_47 (wd hw 84 rfl) (wd hw 2 rfl) (wd hw 3 rfl) (wd hw 4 rfl) (by decide) (m_min Z a0 hw h0 (mem18 a1 a2 a3 a4 a5 a6 a7 q0 z101 z201 z301) z201 ((64 : Int32) - p9)) (argsL := [(.int z201), (.int ((64 : Int32) - p9))]) (rest := []) rfl (ps := [.int, .int]) (by decide +kernel) rfl rfl 0 rfl (by decide) (by decide) (by decide) (by decide) ?_
      rintro _ _ ⟨z9066, rfl, rfl, hz9066, gz9066⟩
      show Go Bff1 Z a0 h0 _ 0 0 (M1 a1 a2 a3 a4 a5 a6 a7 q0 z101 z201 z301) 50 #[.val (.ref a1), .val (.int p4), .val (.int p5), .val (.int (0 : Int32)), .val (.int p9), .val (.int (-1 : Int32)), .unset, .unset, .unset, .unset, .unset] [(.int z9066)]
      have kz9066 : z9066.toInt = z201.toInt ∨ z9066.toInt = ((64 : Int32) - p9).toInt := by rcases gz9066 with h | h <;> rw [h] <;> simp
      refine go_istore #[.val (.ref a1), .val (.int p4), .val (.int p5), .val (.int (0 : Int32)), .val (.int p9), .val (.int (-1 : Int32)), .val (.int z9066), .unset, .unset, .unset, .unset] 52 rfl d14_50 rfl rfl ?_
      refine go_aloadN 53 rfl d14_52 rfl rfl ?_
      refine go_get 0 0 56 rfl d14_53 rfl rfl rfl (wd hw 27 rfl) ?_
      refine go_iloadN 57 rfl d14_56 rfl ?_
      refine go_iadd 58 rfl d14_57 rfl ?_
      refine go_callS 61 rfl d14_58 (wd hw 85 rfl) (wd hw 86 rfl) (wd hw 10 rfl) (wd hw 87 rfl) (by decide) (Met.frame (M1 a1 a2 a3 a4 a5 a6 a7 q0 z101 z201 z301) (mt65 Z a0 hw h0)) (argsL := [(.int (1 : Int32))]) (rest := []) rfl (ps := [.int]) (by decide +kernel) rfl rfl 0 rfl (by decide) (by decide) (by decide) (by decide) ?_
      rintro _ _ ⟨_, ⟨rfl, rfl⟩, rfl⟩
      show Go Bff1 Z a0 h0 _ 0 0 (M1 a1 a2 a3 a4 a5 a6 a7 q0 z101 z201 z301) 61 #[.val (.ref a1), .val (.int p4), .val (.int p5), .val (.int (0 : Int32)), .val (.int p9), .val (.int (-1 : Int32)), .val (.int z9066), .unset, .unset, .unset, .unset] [(.int (0 : Int32))]
      refine go_istore #[.val (.ref a1), .val (.int p4), .val (.int p5), .val (.int (0 : Int32)), .val (.int p9), .val (.int (-1 : Int32)), .val (.int z9066), .val (.int (0 : Int32)), .unset, .unset, .unset] 63 rfl d14_61 rfl rfl ?_
      exact lp1_0 Z a0 hw h0 P a1 a2 a3 a4 a5 a6 a7 q0 z101 z201 z301 p4 p5 z9066 (0 : Int32) p9 (.unset) (Or.inl rfl) (.unset) (Or.inl rfl) (.unset) (Or.inl rfl) h5 hF0 hV.e0 hV.s1 hC (first_no h5.1 (by omega) (by omega) (by omega) hV.s1 hz621 (by decide) (by omega) (by omega) (by omega))
def B17_70 : Bdy := (⟨"com/example/clauseline/clauseline/service/TakenPieces", "next", "(I)I"⟩, prog_101_method_11_code, 2, (some .int), ({ frames := 0, cells := 0, slots := 0, locals := 0 } : Room))
theorem mt70 (Z : State) (a0 : Array Value) (hw : ∀ d ∈ tables_1, d.before a0 Z = true) (h0 : Heap)  :
    Met B17_70 Z a0 h0 #[(.int (3 : Int32))] [] (Ret (some (.int (0 : Int32))) []) := by
  refine Met.of pn17 (ls := #[.val (.int (3 : Int32)), .unset]) (fun m => by first | (simp [entryFrame, mkF, argsToLocals, Value.category, B17_70]; done) | rfl) ?_
  refine go_iloadN 1 rfl d17_0 rfl ?_
  refine go_istoreN #[.val (.int (3 : Int32)), .val (.int (3 : Int32))] 2 rfl d17_1 rfl rfl ?_
  refine go_iloadN 3 rfl d17_2 rfl ?_
  refine go_iconst (2 : Int32) 4 rfl d17_3 rfl ?_
  refine go_irem 5 rfl d17_4 rfl (by decide) ?_
  refine go_iconst (1 : Int32) 6 rfl d17_5 rfl ?_
  refine go_icmp 16 9 rfl (by decide) rfl d17_6 rfl (fun (hc6 : (1 : Int) ≠ (1 : Int)) => absurd hc6 (by decide)) (fun (hc6 : ¬ ((1 : Int) ≠ (1 : Int))) => ?_)
  refine go_iloadN 10 rfl d17_9 rfl ?_
  refine go_iconst (2 : Int32) 11 rfl d17_10 rfl ?_
  refine go_idiv 12 rfl d17_11 rfl (by decide) ?_
  refine go_istoreN #[.val (.int (3 : Int32)), .val (.int (1 : Int32))] 13 rfl d17_12 rfl rfl ?_
  refine go_goto 2 (by decide) rfl d17_13 ?_
  refine go_iloadN 3 rfl d17_2 rfl ?_
  refine go_iconst (2 : Int32) 4 rfl d17_3 rfl ?_
  refine go_irem 5 rfl d17_4 rfl (by decide) ?_
  refine go_iconst (1 : Int32) 6 rfl d17_5 rfl ?_
  refine go_icmp 16 9 rfl (by decide) rfl d17_6 rfl (fun (hc6 : (1 : Int) ≠ (1 : Int)) => absurd hc6 (by decide)) (fun (hc6 : ¬ ((1 : Int) ≠ (1 : Int))) => ?_)
  refine go_iloadN 10 rfl d17_9 rfl ?_
  refine go_iconst (2 : Int32) 11 rfl d17_10 rfl ?_
  refine go_idiv 12 rfl d17_11 rfl (by decide) ?_
  refine go_istoreN #[.val (.int (3 : Int32)), .val (.int (0 : Int32))] 13 rfl d17_12 rfl rfl ?_
  refine go_goto 2 (by decide) rfl d17_13 ?_
  refine go_iloadN 3 rfl d17_2 rfl ?_
  refine go_iconst (2 : Int32) 4 rfl d17_3 rfl ?_
  refine go_irem 5 rfl d17_4 rfl (by decide) ?_
  refine go_iconst (1 : Int32) 6 rfl d17_5 rfl ?_
  refine go_icmp 16 9 rfl (by decide) rfl d17_6 rfl (fun (hc6 : (0 : Int) ≠ (1 : Int)) => ?_) (fun (hc6 : ¬ ((0 : Int) ≠ (1 : Int))) => absurd hc6 (by decide))
  refine go_iloadN 17 rfl d17_16 rfl ?_
  refine go_if 24 20 rfl (by decide) rfl d17_17 rfl (fun (hc17 : (0 : Int) ≠ 0) => absurd hc17 (by decide)) (fun (hc17 : ¬ ((0 : Int) ≠ 0)) => ?_)
  refine go_iconst (0 : Int32) 21 rfl d17_20 rfl ?_
  refine go_goto 27 (by decide) rfl d17_21 ?_
  exact go_ireturn d17_27 rfl (Or.inl rfl) rfl rfl (by decide) (by decide) ⟨rfl, rfl⟩
theorem d17_24 : decode prog_101_method_11_code 24 = .ok (.iload_n 1, 1) := by decide +kernel
theorem d17_25 : decode prog_101_method_11_code 25 = .ok (.iconst 1, 1) := by decide +kernel
theorem d17_26 : decode prog_101_method_11_code 26 = .ok (.iadd, 1) := by decide +kernel
def B17_73 : Bdy := (⟨"com/example/clauseline/clauseline/service/TakenPieces", "next", "(I)I"⟩, prog_101_method_11_code, 2, (some .int), ({ frames := 0, cells := 0, slots := 0, locals := 0 } : Room))
theorem mt73 (Z : State) (a0 : Array Value) (hw : ∀ d ∈ tables_1, d.before a0 Z = true) (h0 : Heap)  :
    Met B17_73 Z a0 h0 #[(.int (2 : Int32))] [] (Ret (some (.int (3 : Int32))) []) := by
  refine Met.of pn17 (ls := #[.val (.int (2 : Int32)), .unset]) (fun m => by first | (simp [entryFrame, mkF, argsToLocals, Value.category, B17_73]; done) | rfl) ?_
  refine go_iloadN 1 rfl d17_0 rfl ?_
  refine go_istoreN #[.val (.int (2 : Int32)), .val (.int (2 : Int32))] 2 rfl d17_1 rfl rfl ?_
  refine go_iloadN 3 rfl d17_2 rfl ?_
  refine go_iconst (2 : Int32) 4 rfl d17_3 rfl ?_
  refine go_irem 5 rfl d17_4 rfl (by decide) ?_
  refine go_iconst (1 : Int32) 6 rfl d17_5 rfl ?_
  refine go_icmp 16 9 rfl (by decide) rfl d17_6 rfl (fun (hc6 : (0 : Int) ≠ (1 : Int)) => ?_) (fun (hc6 : ¬ ((0 : Int) ≠ (1 : Int))) => absurd hc6 (by decide))
  refine go_iloadN 17 rfl d17_16 rfl ?_
  refine go_if 24 20 rfl (by decide) rfl d17_17 rfl (fun (hc17 : (2 : Int) ≠ 0) => ?_) (fun (hc17 : ¬ ((2 : Int) ≠ 0)) => absurd hc17 (by decide))
  refine go_iloadN 25 rfl d17_24 rfl ?_
  refine go_iconst (1 : Int32) 26 rfl d17_25 rfl ?_
  refine go_iadd 27 rfl d17_26 rfl ?_
  show Go B17_73 Z a0 h0 _ 0 0 [] 27 #[.val (.int (2 : Int32)), .val (.int (2 : Int32))] [(.int (3 : Int32))]
  exact go_ireturn d17_27 rfl (Or.inl rfl) rfl rfl (by decide) (by decide) ⟨rfl, rfl⟩
theorem d14_73 : decode prog_101_method_4_code 73 = .ok (.aload_n 0, 1) := by decide +kernel
theorem d14_74 : decode prog_101_method_4_code 74 = .ok (.iload 7, 2) := by decide +kernel
theorem d14_76 : decode prog_101_method_4_code 76 = .ok (.invokevirtual 71, 3) := by decide +kernel
theorem d14_79 : decode prog_101_method_4_code 79 = .ok (.istore 8, 2) := by decide +kernel
theorem d14_81 : decode prog_101_method_4_code 81 = .ok (.bipush 64, 2) := by decide +kernel
theorem d14_83 : decode prog_101_method_4_code 83 = .ok (.iload 8, 2) := by decide +kernel
theorem d14_85 : decode prog_101_method_4_code 85 = .ok (.ishl, 1) := by decide +kernel
theorem d14_86 : decode prog_101_method_4_code 86 = .ok (.istore 9, 2) := by decide +kernel
theorem d14_88 : decode prog_101_method_4_code 88 = .ok (.iload 7, 2) := by decide +kernel
theorem d14_90 : decode prog_101_method_4_code 90 = .ok (.iload 8, 2) := by decide +kernel
theorem d14_92 : decode prog_101_method_4_code 92 = .ok (.ishl, 1) := by decide +kernel
theorem d14_93 : decode prog_101_method_4_code 93 = .ok (.aload_n 0, 1) := by decide +kernel
theorem d14_94 : decode prog_101_method_4_code 94 = .ok (.getfield 21, 3) := by decide +kernel
theorem d14_97 : decode prog_101_method_4_code 97 = .ok (.isub, 1) := by decide +kernel
theorem d14_98 : decode prog_101_method_4_code 98 = .ok (.bipush 64, 2) := by decide +kernel
theorem d14_100 : decode prog_101_method_4_code 100 = .ok (.imul, 1) := by decide +kernel
theorem d14_101 : decode prog_101_method_4_code 101 = .ok (.istore 10, 2) := by decide +kernel
theorem d14_103 : decode prog_101_method_4_code 103 = .ok (.aload_n 0, 1) := by decide +kernel
theorem d14_104 : decode prog_101_method_4_code 104 = .ok (.getfield 29, 3) := by decide +kernel
theorem d14_107 : decode prog_101_method_4_code 107 = .ok (.iload 10, 2) := by decide +kernel
theorem d14_109 : decode prog_101_method_4_code 109 = .ok (.bipush 64, 2) := by decide +kernel
theorem d14_111 : decode prog_101_method_4_code 111 = .ok (.idiv, 1) := by decide +kernel
theorem d14_112 : decode prog_101_method_4_code 112 = .ok (.laload, 1) := by decide +kernel
theorem d14_113 : decode prog_101_method_4_code 113 = .ok (.lconst 1, 1) := by decide +kernel
theorem d14_114 : decode prog_101_method_4_code 114 = .ok (.land, 1) := by decide +kernel
theorem d14_115 : decode prog_101_method_4_code 115 = .ok (.lconst 0, 1) := by decide +kernel
theorem d14_116 : decode prog_101_method_4_code 116 = .ok (.lcmp, 1) := by decide +kernel
theorem d14_117 : decode prog_101_method_4_code 117 = .ok (.ifCond .eq 6, 3) := by decide +kernel
theorem d14_123 : decode prog_101_method_4_code 123 = .ok (.iload 6, 2) := by decide +kernel
theorem d14_125 : decode prog_101_method_4_code 125 = .ok (.aload_n 0, 1) := by decide +kernel
theorem d14_126 : decode prog_101_method_4_code 126 = .ok (.getfield 32, 3) := by decide +kernel
theorem d14_129 : decode prog_101_method_4_code 129 = .ok (.iload 7, 2) := by decide +kernel
theorem d14_131 : decode prog_101_method_4_code 131 = .ok (.iaload, 1) := by decide +kernel
theorem d14_132 : decode prog_101_method_4_code 132 = .ok (.iadd, 1) := by decide +kernel
theorem d14_133 : decode prog_101_method_4_code 133 = .ok (.iload_n 2, 1) := by decide +kernel
theorem d14_134 : decode prog_101_method_4_code 134 = .ok (.if_icmp .lt 13, 3) := by decide +kernel
theorem d14_137 : decode prog_101_method_4_code 137 = .ok (.iload 10, 2) := by decide +kernel
theorem d14_139 : decode prog_101_method_4_code 139 = .ok (.iload 6, 2) := by decide +kernel
theorem d14_141 : decode prog_101_method_4_code 141 = .ok (.isub, 1) := by decide +kernel
theorem d14_142 : decode prog_101_method_4_code 142 = .ok (.istore 5, 2) := by decide +kernel
theorem d14_144 : decode prog_101_method_4_code 144 = .ok (.goto 86, 3) := by decide +kernel
theorem d14_147 : decode prog_101_method_4_code 147 = .ok (.aload_n 0, 1) := by decide +kernel
theorem d14_148 : decode prog_101_method_4_code 148 = .ok (.getfield 39, 3) := by decide +kernel
theorem d14_151 : decode prog_101_method_4_code 151 = .ok (.iload 7, 2) := by decide +kernel
theorem d14_153 : decode prog_101_method_4_code 153 = .ok (.iaload, 1) := by decide +kernel
theorem d14_154 : decode prog_101_method_4_code 154 = .ok (.iload_n 2, 1) := by decide +kernel
theorem d14_155 : decode prog_101_method_4_code 155 = .ok (.if_icmp .ge 42, 3) := by decide +kernel
theorem d14_158 : decode prog_101_method_4_code 158 = .ok (.aload_n 0, 1) := by decide +kernel
theorem d14_159 : decode prog_101_method_4_code 159 = .ok (.getfield 32, 3) := by decide +kernel
theorem d14_162 : decode prog_101_method_4_code 162 = .ok (.iload 7, 2) := by decide +kernel
theorem d14_164 : decode prog_101_method_4_code 164 = .ok (.iaload, 1) := by decide +kernel
theorem d14_165 : decode prog_101_method_4_code 165 = .ok (.iload 9, 2) := by decide +kernel
theorem d14_167 : decode prog_101_method_4_code 167 = .ok (.if_icmp .ne 11, 3) := by decide +kernel
theorem d14_170 : decode prog_101_method_4_code 170 = .ok (.iload 6, 2) := by decide +kernel
theorem d14_172 : decode prog_101_method_4_code 172 = .ok (.iload 9, 2) := by decide +kernel
theorem d14_174 : decode prog_101_method_4_code 174 = .ok (.iadd, 1) := by decide +kernel
theorem d14_175 : decode prog_101_method_4_code 175 = .ok (.goto 10, 3) := by decide +kernel
theorem d14_178 : decode prog_101_method_4_code 178 = .ok (.aload_n 0, 1) := by decide +kernel
theorem d14_179 : decode prog_101_method_4_code 179 = .ok (.getfield 36, 3) := by decide +kernel
theorem d14_182 : decode prog_101_method_4_code 182 = .ok (.iload 7, 2) := by decide +kernel
theorem d14_184 : decode prog_101_method_4_code 184 = .ok (.iaload, 1) := by decide +kernel
theorem d14_185 : decode prog_101_method_4_code 185 = .ok (.istore 6, 2) := by decide +kernel
theorem d14_187 : decode prog_101_method_4_code 187 = .ok (.iload 7, 2) := by decide +kernel
theorem d14_189 : decode prog_101_method_4_code 189 = .ok (.invokestatic 68, 3) := by decide +kernel
theorem d14_192 : decode prog_101_method_4_code 192 = .ok (.istore 7, 2) := by decide +kernel
theorem d14_194 : decode prog_101_method_4_code 194 = .ok (.goto 36, 3) := by decide +kernel
theorem d14_197 : decode prog_101_method_4_code 197 = .ok (.iload 7, 2) := by decide +kernel
theorem d14_199 : decode prog_101_method_4_code 199 = .ok (.aload_n 0, 1) := by decide +kernel
theorem d14_200 : decode prog_101_method_4_code 200 = .ok (.getfield 21, 3) := by decide +kernel
theorem d14_203 : decode prog_101_method_4_code 203 = .ok (.if_icmp .lt 21, 3) := by decide +kernel
theorem d14_206 : decode prog_101_method_4_code 206 = .ok (.aload_n 0, 1) := by decide +kernel
theorem d14_207 : decode prog_101_method_4_code 207 = .ok (.iload 7, 2) := by decide +kernel
theorem d14_209 : decode prog_101_method_4_code 209 = .ok (.aload_n 0, 1) := by decide +kernel
theorem d14_210 : decode prog_101_method_4_code 210 = .ok (.getfield 21, 3) := by decide +kernel
theorem d14_213 : decode prog_101_method_4_code 213 = .ok (.isub, 1) := by decide +kernel
theorem d14_214 : decode prog_101_method_4_code 214 = .ok (.iconst 0, 1) := by decide +kernel
theorem d14_215 : decode prog_101_method_4_code 215 = .ok (.iload_n 2, 1) := by decide +kernel
theorem d14_216 : decode prog_101_method_4_code 216 = .ok (.invokevirtual 58, 3) := by decide +kernel
theorem d14_219 : decode prog_101_method_4_code 219 = .ok (.istore 5, 2) := by decide +kernel
theorem d14_221 : decode prog_101_method_4_code 221 = .ok (.goto 9, 3) := by decide +kernel
theorem d14_230 : decode prog_101_method_4_code 230 = .ok (.goto (-167), 3) := by decide +kernel
def Bff2 : Bdy := (⟨"com/example/clauseline/clauseline/service/TakenPieces", "firstFree", "(II)I"⟩, prog_101_method_4_code, 11, (some .int), ({ frames := 4, cells := 0, slots := 0, locals := 67 } : Room))
theorem lp2_0 (Z : State) (a0 : Array Value) (hw : ∀ d ∈ tables_1, d.before a0 Z = true) (h0 : Heap) (P : Fr1) (a1 a2 a3 a4 a5 a6 a7 : Addr) (q0 q1 : Int64) (z101 z201 z301 z102 z202 z302 z103 z203 z303 z401 : Int32) (p4 p5 p7 p8 p9 : Int32) (s50 : Slot) (h50 : s50 = .unset ∨ ∃ w, s50 = .val w ∧ w.category = 1) (s51 : Slot) (h51 : s51 = .unset ∨ ∃ w, s51 = .val w ∧ w.category = 1) (s52 : Slot) (h52 : s52 = .unset ∨ ∃ w, s52 = .val w ∧ w.category = 1) (h5 : 0 < p5.toInt ∧ p5.toInt ≤ 256) (hF0 : 0 ≤ p4.toInt) (e0 : Fre P 0 q0) (e1 : Fre P 1 q1) (s1 : Sm P 0 128 z101.toInt z201.toInt z301.toInt) (s2 : Sm P 0 64 z102.toInt z202.toInt z302.toInt) (s3 : Sm P 64 128 z103.toInt z203.toInt z303.toInt) (hC : ∀ x, 128 ≤ x → ¬ P x) (hI : LI P p4.toInt p5.toInt 128 p7.toInt) :
    Go Bff2 Z a0 h0 (fun v ds => ∃ y10 y11 y12 y13 : Int32, Inv2 P q0 q1 y10 y11 y12 z102 z202 z302 z103 z203 z303 y13 ∧ ∃ z : Int32, Ans P p4.toInt p5.toInt z.toInt ∧ Ret (some (.int z)) (M2 a1 a2 a3 a4 a5 a6 a7 q0 q1 y10 y11 y12 z102 z202 z302 z103 z203 z303 y13) v ds) 0 0 (M2 a1 a2 a3 a4 a5 a6 a7 q0 q1 z101 z201 z301 z102 z202 z302 z103 z203 z303 z401) 63 #[.val (.ref a1), .val (.int p4), .val (.int p5), .val (.int p8), .val (.int p9), .val (.int (-1 : Int32)), .val (.int p7), .val (.int (0 : Int32)), s50, s51, s52] [] := by
  show Go Bff2 Z a0 h0 _ 0 0 (M2 a1 a2 a3 a4 a5 a6 a7 q0 q1 z101 z201 z301 z102 z202 z302 z103 z203 z303 z401) 63 #[.val (.ref a1), .val (.int p4), .val (.int p5), .val (.int p8), .val (.int p9), .val (.int (-1 : Int32)), .val (.int p7), .val (.int (0 : Int32)), s50, s51, s52] []
  have g0 := hI.r0; have g1 := hI.r1
  refine go_iload 65 rfl d14_63 rfl ?_
  refine go_if 233 68 rfl (by decide) rfl d14_65 rfl (fun (hc65 : 0 ≤ (-1 : Int)) => absurd hc65 (by decide)) (fun (hc65 : ¬ (0 ≤ (-1 : Int))) => ?_)
  refine go_iload 70 rfl d14_68 rfl ?_
  refine go_if 233 73 rfl (by decide) rfl d14_70 rfl (fun (hc70 : (0 : Int) ≤ 0) => ?_) (fun (hc70 : ¬ ((0 : Int) ≤ 0)) => absurd hc70 (by decide))
  refine go_iload 235 rfl d14_233 rfl ?_
  exact go_ireturn d14_235 rfl (Or.inl rfl) rfl rfl (by decide) (by decide) ⟨_, _, _, _, (Inv2.mk e0 e1 s2 s3 (fun _ => s1)), (-1 : Int32), (show Ans P _ _ (-1 : Int32).toInt from hI.fin h5.1 hC), rfl, rfl⟩
theorem lp2_3 (Z : State) (a0 : Array Value) (hw : ∀ d ∈ tables_1, d.before a0 Z = true) (h0 : Heap) (P : Fr1) (a1 a2 a3 a4 a5 a6 a7 : Addr) (q0 q1 : Int64) (z101 z201 z301 z102 z202 z302 z103 z203 z303 z401 : Int32) (p4 p5 p7 p8 p9 : Int32) (s50 : Slot) (h50 : s50 = .unset ∨ ∃ w, s50 = .val w ∧ w.category = 1) (s51 : Slot) (h51 : s51 = .unset ∨ ∃ w, s51 = .val w ∧ w.category = 1) (s52 : Slot) (h52 : s52 = .unset ∨ ∃ w, s52 = .val w ∧ w.category = 1) (h5 : 0 < p5.toInt ∧ p5.toInt ≤ 256) (hF0 : 0 ≤ p4.toInt) (e0 : Fre P 0 q0) (e1 : Fre P 1 q1) (s1 : Sm P 0 128 z101.toInt z201.toInt z301.toInt) (s2 : Sm P 0 64 z102.toInt z202.toInt z302.toInt) (s3 : Sm P 64 128 z103.toInt z203.toInt z303.toInt) (hC : ∀ x, 128 ≤ x → ¬ P x) (hI : LI P p4.toInt p5.toInt 64 p7.toInt) :
    Go Bff2 Z a0 h0 (fun v ds => ∃ y10 y11 y12 y13 : Int32, Inv2 P q0 q1 y10 y11 y12 z102 z202 z302 z103 z203 z303 y13 ∧ ∃ z : Int32, Ans P p4.toInt p5.toInt z.toInt ∧ Ret (some (.int z)) (M2 a1 a2 a3 a4 a5 a6 a7 q0 q1 y10 y11 y12 z102 z202 z302 z103 z203 z303 y13) v ds) 0 0 (M2 a1 a2 a3 a4 a5 a6 a7 q0 q1 z101 z201 z301 z102 z202 z302 z103 z203 z303 z401) 63 #[.val (.ref a1), .val (.int p4), .val (.int p5), .val (.int p8), .val (.int p9), .val (.int (-1 : Int32)), .val (.int p7), .val (.int (3 : Int32)), s50, s51, s52] [] := by
  show Go Bff2 Z a0 h0 _ 0 0 (M2 a1 a2 a3 a4 a5 a6 a7 q0 q1 z101 z201 z301 z102 z202 z302 z103 z203 z303 z401) 63 #[.val (.ref a1), .val (.int p4), .val (.int p5), .val (.int p8), .val (.int p9), .val (.int (-1 : Int32)), .val (.int p7), .val (.int (3 : Int32)), s50, s51, s52] []
  have g0 := hI.r0; have g1 := hI.r1
  have g2 := s3.f0; have g3 := s3.f1; have g4 := s3.l0; have g5 := s3.l1
  refine go_iload 65 rfl d14_63 rfl ?_
  refine go_if 233 68 rfl (by decide) rfl d14_65 rfl (fun (hc65 : 0 ≤ (-1 : Int)) => absurd hc65 (by decide)) (fun (hc65 : ¬ (0 ≤ (-1 : Int))) => ?_)
  refine go_iload 70 rfl d14_68 rfl ?_
  refine go_if 233 73 rfl (by decide) rfl d14_70 rfl (fun (hc70 : (3 : Int) ≤ 0) => absurd hc70 (by decide)) (fun (hc70 : ¬ ((3 : Int) ≤ 0)) => ?_)
  refine go_aloadN 74 rfl d14_73 rfl rfl ?_
  refine go_iload 76 rfl d14_74 rfl ?_
  refine go_callP (host := "") 79 rfl d14_76 (Or.inl (wd hw 96 rfl)) (wd hw 97 rfl) (wd hw 98 rfl) (wd hw 9 rfl) (wd hw 10 rfl) (wd hw 99 rfl) (by decide) (Mo.exa (i := 0) rfl) (m_lb Z a0 hw h0 a1 a2 a3 a4 a5 a6 a7 [(.long q0), (.long q1)] [(.long (0 : Int64)), (.long (0 : Int64))] [(.int (0 : Int32)), (.int z101), (.int z102), (.int z103)] [(.int (0 : Int32)), (.int z201), (.int z202), (.int z203)] [(.int (0 : Int32)), (.int z301), (.int z302), (.int z303)] [(.int (0 : Int32)), (.int z401)] (3 : Int32) (2 : Int32) (0 : Int32) (by decide +kernel)) (argsL := [(.int (3 : Int32))]) (rest := []) rfl (ps := [.int]) (by decide +kernel) rfl rfl 0 rfl (by decide) (by decide) (by decide) (by decide) ?_
  rintro _ _ ⟨rfl, rfl⟩
  show Go Bff2 Z a0 h0 _ 0 0 (M2 a1 a2 a3 a4 a5 a6 a7 q0 q1 z101 z201 z301 z102 z202 z302 z103 z203 z303 z401) 79 #[.val (.ref a1), .val (.int p4), .val (.int p5), .val (.int p8), .val (.int p9), .val (.int (-1 : Int32)), .val (.int p7), .val (.int (3 : Int32)), s50, s51, s52] [(.int (0 : Int32))]
  refine go_istore #[.val (.ref a1), .val (.int p4), .val (.int p5), .val (.int p8), .val (.int p9), .val (.int (-1 : Int32)), .val (.int p7), .val (.int (3 : Int32)), .val (.int (0 : Int32)), s51, s52] 81 rfl d14_79 rfl (XS.store1 rfl h50 rfl) ?_
  refine go_bipush (64 : Int32) 83 rfl d14_81 rfl ?_
  refine go_iload 85 rfl d14_83 rfl ?_
  refine go_ishl 86 rfl d14_85 rfl ?_
  refine go_istore #[.val (.ref a1), .val (.int p4), .val (.int p5), .val (.int p8), .val (.int p9), .val (.int (-1 : Int32)), .val (.int p7), .val (.int (3 : Int32)), .val (.int (0 : Int32)), .val (.int (64 : Int32)), s52] 88 rfl d14_86 rfl (XS.store1 rfl h51 rfl) ?_
  refine go_iload 90 rfl d14_88 rfl ?_
  refine go_iload 92 rfl d14_90 rfl ?_
  refine go_ishl 93 rfl d14_92 rfl ?_
  refine go_aloadN 94 rfl d14_93 rfl rfl ?_
  refine go_get 0 0 97 rfl d14_94 rfl rfl rfl (wd hw 27 rfl) ?_
  refine go_isub 98 rfl d14_97 rfl ?_
  refine go_bipush (64 : Int32) 100 rfl d14_98 rfl ?_
  refine go_imul 101 rfl d14_100 rfl ?_
  refine go_istore #[.val (.ref a1), .val (.int p4), .val (.int p5), .val (.int p8), .val (.int p9), .val (.int (-1 : Int32)), .val (.int p7), .val (.int (3 : Int32)), .val (.int (0 : Int32)), .val (.int (64 : Int32)), .val (.int (64 : Int32))] 103 rfl d14_101 rfl (XS.store1 rfl h52 rfl) ?_
  refine go_aloadN 104 rfl d14_103 rfl rfl ?_
  refine go_get 0 2 107 rfl d14_104 rfl rfl rfl (wd hw 32 rfl) ?_
  refine go_iload 109 rfl d14_107 rfl ?_
  refine go_bipush (64 : Int32) 111 rfl d14_109 rfl ?_
  refine go_idiv 112 rfl d14_111 rfl (by decide) ?_
  refine go_laload 113 rfl d14_112 rfl (Mo.el (i := 2) rfl (by decide) rfl) ?_
  refine go_lconst (1 : Int64) 114 rfl d14_113 rfl ?_
  refine go_land 115 rfl d14_114 rfl ?_
  refine go_lconst (0 : Int64) 116 rfl d14_115 rfl ?_
  refine go_lcmp 117 rfl d14_116 rfl ?_
  refine go_if 123 120 rfl (by decide) rfl d14_117 rfl (fun (hc117 : (lcmpW ((0 : Int64) &&& (1 : Int64)) (0 : Int64)).toInt = 0) => ?_) (fun (hc117 : ¬ ((lcmpW ((0 : Int64) &&& (1 : Int64)) (0 : Int64)).toInt = 0)) => absurd hc117 (by decide))
  refine go_iload 125 rfl d14_123 rfl ?_
  refine go_aloadN 126 rfl d14_125 rfl rfl ?_
  refine go_get 0 3 129 rfl d14_126 rfl rfl rfl (wd hw 35 rfl) ?_
  refine go_iload 131 rfl d14_129 rfl ?_
  refine go_iaload 132 rfl d14_131 rfl (Mo.el (i := 3) rfl (by decide) rfl) ?_
  refine go_iadd 133 rfl d14_132 rfl ?_
  have fa1 : (p7 + z103).toInt = p7.toInt + z103.toInt := addE rfl rfl (by omega)
  refine go_iloadN 134 rfl d14_133 rfl ?_
  refine go_icmp 147 137 rfl (by decide) rfl d14_134 rfl (fun (hc134_66 : (p7 + z103).toInt < p5.toInt) => ?_) (fun (hc134_66 : ¬ ((p7 + z103).toInt < p5.toInt)) => ?_)
  · refine go_aloadN 148 rfl d14_147 rfl rfl ?_
    refine go_get 0 5 151 rfl d14_148 rfl rfl rfl (wd hw 39 rfl) ?_
    refine go_iload 153 rfl d14_151 rfl ?_
    refine go_iaload 154 rfl d14_153 rfl (Mo.el (i := 5) rfl (by decide) rfl) ?_
    refine go_iloadN 155 rfl d14_154 rfl ?_
    refine go_icmp 197 158 rfl (by decide) rfl d14_155 rfl (fun (hc155_67 : p5.toInt ≤ z303.toInt) => ?_) (fun (hc155_67 : ¬ (p5.toInt ≤ z303.toInt)) => ?_)
    · refine go_iload 199 rfl d14_197 rfl ?_
      refine go_aloadN 200 rfl d14_199 rfl rfl ?_
      refine go_get 0 0 203 rfl d14_200 rfl rfl rfl (wd hw 27 rfl) ?_
      refine go_icmp 224 206 rfl (by decide) rfl d14_203 rfl (fun (hc203 : (3 : Int) < (2 : Int)) => absurd hc203 (by decide)) (fun (hc203 : ¬ ((3 : Int) < (2 : Int))) => ?_)
      refine go_aloadN 207 rfl d14_206 rfl rfl ?_
      refine go_iload 209 rfl d14_207 rfl ?_
      refine go_aloadN 210 rfl d14_209 rfl rfl ?_
      refine go_get 0 0 213 rfl d14_210 rfl rfl rfl (wd hw 27 rfl) ?_
      refine go_isub 214 rfl d14_213 rfl ?_
      refine go_iconst (0 : Int32) 215 rfl d14_214 rfl ?_
      refine go_iloadN 216 rfl d14_215 rfl ?_
      refine go_callP (host := "") 219 rfl d14_216 (Or.inl (wd hw 76 rfl)) (wd hw 77 rfl) (wd hw 78 rfl) (wd hw 9 rfl) (wd hw 10 rfl) (wd hw 79 rfl) (by decide) (Mo.exa (i := 0) rfl) (m_scan Z a0 hw h0 P a1 a2 a3 a4 a5 a6 a7 [(.long q0), (.long q1)] [(.long (0 : Int64)), (.long (0 : Int64))] [(.int (0 : Int32)), (.int z101), (.int z102), (.int z103)] [(.int (0 : Int32)), (.int z201), (.int z202), (.int z203)] [(.int (0 : Int32)), (.int z301), (.int z302), (.int z303)] [(.int (0 : Int32)), (.int z401)] (1 : Int32) (2 : Int32) (0 : Int32) p5 q1 1 128 64 rfl rfl (by decide) e1 rfl (by decide) (by decide) h5 (by decide) (by decide)) (argsL := [(.int (1 : Int32)), (.int (0 : Int32)), (.int p5)]) (rest := []) rfl (ps := [.int, .int, .int]) (by decide +kernel) rfl rfl 0 rfl (by decide) (by decide) (by decide) (by decide) ?_
      rintro _ _ ⟨z622, rfl, rfl, hz622⟩
      show Go Bff2 Z a0 h0 _ 0 0 (M2 a1 a2 a3 a4 a5 a6 a7 q0 q1 z101 z201 z301 z102 z202 z302 z103 z203 z303 z401) 219 #[.val (.ref a1), .val (.int p4), .val (.int p5), .val (.int p8), .val (.int p9), .val (.int (-1 : Int32)), .val (.int p7), .val (.int (3 : Int32)), .val (.int (0 : Int32)), .val (.int (64 : Int32)), .val (.int (64 : Int32))] [(.int z622)]
      refine go_istore #[.val (.ref a1), .val (.int p4), .val (.int p5), .val (.int p8), .val (.int p9), .val (.int z622), .val (.int p7), .val (.int (3 : Int32)), .val (.int (0 : Int32)), .val (.int (64 : Int32)), .val (.int (64 : Int32))] 221 rfl d14_219 rfl rfl ?_
      refine go_goto 230 (by decide) rfl d14_221 ?_
      refine go_goto 63 (by decide) rfl d14_230 ?_
      refine go_iload 65 rfl d14_63 rfl ?_
      refine go_if 233 68 rfl (by decide) rfl d14_65 rfl (fun (hc65 : 0 ≤ z622.toInt) => ?_) (fun (hc65 : ¬ (0 ≤ z622.toInt)) => absurd hc65 (by have := (hI.scan s3 (by omega) h5.1 (by omega) (by omega) hz622).1; omega))
      refine go_iload 235 rfl d14_233 rfl ?_
      exact go_ireturn d14_235 rfl (Or.inl rfl) rfl rfl (by decide) (by decide) ⟨_, _, _, _, (Inv2.mk e0 e1 s2 s3 (fun _ => s1)), _, (hI.scan s3 (by omega) h5.1 (by omega) (by omega) hz622).2, rfl, rfl⟩
    · refine go_aloadN 159 rfl d14_158 rfl rfl ?_
      refine go_get 0 3 162 rfl d14_159 rfl rfl rfl (wd hw 35 rfl) ?_
      refine go_iload 164 rfl d14_162 rfl ?_
      refine go_iaload 165 rfl d14_164 rfl (Mo.el (i := 3) rfl (by decide) rfl) ?_
      refine go_iload 167 rfl d14_165 rfl ?_
      refine go_icmp 178 170 rfl (by decide) rfl d14_167 rfl (fun (hc167_68 : z103.toInt ≠ (64 : Int)) => ?_) (fun (hc167_68 : ¬ (z103.toInt ≠ (64 : Int))) => ?_)
      · refine go_aloadN 179 rfl d14_178 rfl rfl ?_
        refine go_get 0 4 182 rfl d14_179 rfl rfl rfl (wd hw 37 rfl) ?_
        refine go_iload 184 rfl d14_182 rfl ?_
        refine go_iaload 185 rfl d14_184 rfl (Mo.el (i := 4) rfl (by decide) rfl) ?_
        refine go_istore #[.val (.ref a1), .val (.int p4), .val (.int p5), .val (.int p8), .val (.int p9), .val (.int (-1 : Int32)), .val (.int z203), .val (.int (3 : Int32)), .val (.int (0 : Int32)), .val (.int (64 : Int32)), .val (.int (64 : Int32))] 187 rfl d14_185 rfl rfl ?_
        refine go_iload 189 rfl d14_187 rfl ?_
        refine go_callS 192 rfl d14_189 (wd hw 85 rfl) (wd hw 86 rfl) (wd hw 10 rfl) (wd hw 87 rfl) (by decide) (Met.frame (M2 a1 a2 a3 a4 a5 a6 a7 q0 q1 z101 z201 z301 z102 z202 z302 z103 z203 z303 z401) (mt70 Z a0 hw h0)) (argsL := [(.int (3 : Int32))]) (rest := []) rfl (ps := [.int]) (by decide +kernel) rfl rfl 0 rfl (by decide) (by decide) (by decide) (by decide) ?_
        rintro _ _ ⟨_, ⟨rfl, rfl⟩, rfl⟩
        show Go Bff2 Z a0 h0 _ 0 0 (M2 a1 a2 a3 a4 a5 a6 a7 q0 q1 z101 z201 z301 z102 z202 z302 z103 z203 z303 z401) 192 #[.val (.ref a1), .val (.int p4), .val (.int p5), .val (.int p8), .val (.int p9), .val (.int (-1 : Int32)), .val (.int z203), .val (.int (3 : Int32)), .val (.int (0 : Int32)), .val (.int (64 : Int32)), .val (.int (64 : Int32))] [(.int (0 : Int32))]
        refine go_istore #[.val (.ref a1), .val (.int p4), .val (.int p5), .val (.int p8), .val (.int p9), .val (.int (-1 : Int32)), .val (.int z203), .val (.int (0 : Int32)), .val (.int (0 : Int32)), .val (.int (64 : Int32)), .val (.int (64 : Int32))] 194 rfl d14_192 rfl rfl ?_
        refine go_goto 230 (by decide) rfl d14_194 ?_
        refine go_goto 63 (by decide) rfl d14_230 ?_
        exact lp2_0 Z a0 hw h0 P a1 a2 a3 a4 a5 a6 a7 q0 q1 z101 z201 z301 z102 z202 z302 z103 z203 z303 z401 p4 p5 z203 p8 p9 (.val (.int (0 : Int32))) (Or.inr ⟨_, rfl, rfl⟩) (.val (.int (64 : Int32))) (Or.inr ⟨_, rfl, rfl⟩) (.val (.int (64 : Int32))) (Or.inr ⟨_, rfl, rfl⟩) h5 hF0 e0 e1 s1 s2 s3 hC (hI.skip s3 (by omega) (by omega) (by omega) (by omega))
      · refine go_iload 172 rfl d14_170 rfl ?_
        refine go_iload 174 rfl d14_172 rfl ?_
        refine go_iadd 175 rfl d14_174 rfl ?_
        have fa2 : (p7 + (64 : Int32)).toInt = p7.toInt + (64 : Int) := addE rfl rfl (by omega)
        refine go_goto 185 (by decide) rfl d14_175 ?_
        refine go_istore #[.val (.ref a1), .val (.int p4), .val (.int p5), .val (.int p8), .val (.int p9), .val (.int (-1 : Int32)), .val (.int (p7 + (64 : Int32))), .val (.int (3 : Int32)), .val (.int (0 : Int32)), .val (.int (64 : Int32)), .val (.int (64 : Int32))] 187 rfl d14_185 rfl rfl ?_
        refine go_iload 189 rfl d14_187 rfl ?_
        refine go_callS 192 rfl d14_189 (wd hw 85 rfl) (wd hw 86 rfl) (wd hw 10 rfl) (wd hw 87 rfl) (by decide) (Met.frame (M2 a1 a2 a3 a4 a5 a6 a7 q0 q1 z101 z201 z301 z102 z202 z302 z103 z203 z303 z401) (mt70 Z a0 hw h0)) (argsL := [(.int (3 : Int32))]) (rest := []) rfl (ps := [.int]) (by decide +kernel) rfl rfl 0 rfl (by decide) (by decide) (by decide) (by decide) ?_
        rintro _ _ ⟨_, ⟨rfl, rfl⟩, rfl⟩
        show Go Bff2 Z a0 h0 _ 0 0 (M2 a1 a2 a3 a4 a5 a6 a7 q0 q1 z101 z201 z301 z102 z202 z302 z103 z203 z303 z401) 192 #[.val (.ref a1), .val (.int p4), .val (.int p5), .val (.int p8), .val (.int p9), .val (.int (-1 : Int32)), .val (.int (p7 + (64 : Int32))), .val (.int (3 : Int32)), .val (.int (0 : Int32)), .val (.int (64 : Int32)), .val (.int (64 : Int32))] [(.int (0 : Int32))]
        refine go_istore #[.val (.ref a1), .val (.int p4), .val (.int p5), .val (.int p8), .val (.int p9), .val (.int (-1 : Int32)), .val (.int (p7 + (64 : Int32))), .val (.int (0 : Int32)), .val (.int (0 : Int32)), .val (.int (64 : Int32)), .val (.int (64 : Int32))] 194 rfl d14_192 rfl rfl ?_
        refine go_goto 230 (by decide) rfl d14_194 ?_
        refine go_goto 63 (by decide) rfl d14_230 ?_
        exact lp2_0 Z a0 hw h0 P a1 a2 a3 a4 a5 a6 a7 q0 q1 z101 z201 z301 z102 z202 z302 z103 z203 z303 z401 p4 p5 (p7 + (64 : Int32)) p8 p9 (.val (.int (0 : Int32))) (Or.inr ⟨_, rfl, rfl⟩) (.val (.int (64 : Int32))) (Or.inr ⟨_, rfl, rfl⟩) (.val (.int (64 : Int32))) (Or.inr ⟨_, rfl, rfl⟩) h5 hF0 e0 e1 s1 s2 s3 hC (hI.skip s3 (by omega) (by omega) (by omega) (by omega))
  · refine go_iload 139 rfl d14_137 rfl ?_
    refine go_iload 141 rfl d14_139 rfl ?_
    refine go_isub 142 rfl d14_141 rfl ?_
    have fa3 : ((64 : Int32) - p7).toInt = (64 : Int) - p7.toInt := subE rfl rfl (by omega)
    refine go_istore #[.val (.ref a1), .val (.int p4), .val (.int p5), .val (.int p8), .val (.int p9), .val (.int ((64 : Int32) - p7)), .val (.int p7), .val (.int (3 : Int32)), .val (.int (0 : Int32)), .val (.int (64 : Int32)), .val (.int (64 : Int32))] 144 rfl d14_142 rfl rfl ?_
    refine go_goto 230 (by decide) rfl d14_144 ?_
    refine go_goto 63 (by decide) rfl d14_230 ?_
    refine go_iload 65 rfl d14_63 rfl ?_
    refine go_if 233 68 rfl (by decide) rfl d14_65 rfl (fun (hc65 : 0 ≤ ((64 : Int32) - p7).toInt) => ?_) (fun (hc65 : ¬ (0 ≤ ((64 : Int32) - p7).toInt)) => absurd hc65 (by omega))
    refine go_iload 235 rfl d14_233 rfl ?_
    exact go_ireturn d14_235 rfl (Or.inl rfl) rfl rfl (by decide) (by decide) ⟨_, _, _, _, (Inv2.mk e0 e1 s2 s3 (fun _ => s1)), _, (by rw [show ((64 : Int32) - p7).toInt = 64 - p7.toInt from by omega]; exact hI.found s3 h5.1 (by omega)), rfl, rfl⟩
theorem m_ff2 (Z : State) (a0 : Array Value) (hw : ∀ d ∈ tables_1, d.before a0 Z = true) (h0 : Heap) (P : Fr1) (a1 a2 a3 a4 a5 a6 a7 : Addr) (q0 q1 : Int64) (z101 z201 z301 z102 z202 z302 z103 z203 z303 z401 : Int32) (p4 p5 : Int32) (hV : Inv2 P q0 q1 z101 z201 z301 z102 z202 z302 z103 z203 z303 z401) (h5 : 0 < p5.toInt ∧ p5.toInt ≤ 256) (hF0 : 0 ≤ p4.toInt) (hF1 : p4.toInt < 128) (hC : ∀ x, 128 ≤ x → ¬ P x) :
    Met Bff2 Z a0 h0 #[(.ref a1), (.int p4), (.int p5)] (M2 a1 a2 a3 a4 a5 a6 a7 q0 q1 z101 z201 z301 z102 z202 z302 z103 z203 z303 z401) (fun v ds => ∃ y10 y11 y12 y13 : Int32, Inv2 P q0 q1 y10 y11 y12 z102 z202 z302 z103 z203 z303 y13 ∧ ∃ z : Int32, Ans P p4.toInt p5.toInt z.toInt ∧ Ret (some (.int z)) (M2 a1 a2 a3 a4 a5 a6 a7 q0 q1 y10 y11 y12 z102 z202 z302 z103 z203 z303 y13) v ds) := by
  refine Met.of pn14 (ls := #[.val (.ref a1), .val (.int p4), .val (.int p5), .unset, .unset, .unset, .unset, .unset, .unset, .unset, .unset]) (fun m => by first | (simp [entryFrame, mkF, argsToLocals, Value.category, Bff2]; done) | rfl) ?_
  refine go_iloadN 1 rfl d14_0 rfl ?_
  refine go_bipush (64 : Int32) 3 rfl d14_1 rfl ?_
  refine go_idiv 4 rfl d14_3 rfl (by decide) ?_
  have ed := (c_idiv p4 (64 : Int32) 64 rfl (by decide)).1 (by omega)
  have ec : p4 / (64 : Int32) = (0 : Int32) ∧ (0 ≤ p4.toInt ∧ p4.toInt < 64) ∨ p4 / (64 : Int32) = (1 : Int32) ∧ (64 ≤ p4.toInt ∧ p4.toInt < 128) := by
    have : (p4 / (64 : Int32)).toInt = 0 ∨ (p4 / (64 : Int32)).toInt = 1 := by omega
    rcases this with q | q
    · exact Or.inl ⟨i32_of q rfl, by omega⟩
    · exact Or.inr (⟨i32_of q rfl, by omega⟩)
  rcases ec with ⟨ec, hr⟩ | ⟨ec, hr⟩
  · rw [ec]
    refine go_istoreN #[.val (.ref a1), .val (.int p4), .val (.int p5), .val (.int (0 : Int32)), .unset, .unset, .unset, .unset, .unset, .unset, .unset] 5 rfl d14_4 rfl rfl ?_
    refine go_iloadN 6 rfl d14_5 rfl ?_
    refine go_bipush (64 : Int32) 8 rfl d14_6 rfl ?_
    refine go_irem 9 rfl d14_8 rfl (by decide) ?_
    have er := (c_irem p4 (64 : Int32) 64 rfl).1 (by omega)
    generalize p4 % (64 : Int32) = p9 at er ⊢
    refine go_istore #[.val (.ref a1), .val (.int p4), .val (.int p5), .val (.int (0 : Int32)), .val (.int p9), .unset, .unset, .unset, .unset, .unset, .unset] 11 rfl d14_9 rfl rfl ?_
    refine go_aloadN 12 rfl d14_11 rfl rfl ?_
    refine go_iloadN 13 rfl d14_12 rfl ?_
    refine go_iload 15 rfl d14_13 rfl ?_
    refine go_iloadN 16 rfl d14_15 rfl ?_
    refine go_callP (host := "") 19 rfl d14_16 (Or.inl (wd hw 76 rfl)) (wd hw 77 rfl) (wd hw 78 rfl) (wd hw 9 rfl) (wd hw 10 rfl) (wd hw 79 rfl) (by decide) (Mo.exa (i := 0) rfl) (m_scan Z a0 hw h0 P a1 a2 a3 a4 a5 a6 a7 [(.long q0), (.long q1)] [(.long (0 : Int64)), (.long (0 : Int64))] [(.int (0 : Int32)), (.int z101), (.int z102), (.int z103)] [(.int (0 : Int32)), (.int z201), (.int z202), (.int z203)] [(.int (0 : Int32)), (.int z301), (.int z302), (.int z303)] [(.int (0 : Int32)), (.int z401)] (0 : Int32) (2 : Int32) p9 p5 q0 0 64 p4.toInt rfl rfl (by decide) hV.e0 rfl (by decide) (by omega) h5 (by decide) (by omega)) (argsL := [(.int (0 : Int32)), (.int p9), (.int p5)]) (rest := []) rfl (ps := [.int, .int, .int]) (by decide +kernel) rfl rfl 0 rfl (by decide) (by decide) (by decide) (by decide) ?_
    rintro _ _ ⟨z623, rfl, rfl, hz623⟩
    show Go Bff2 Z a0 h0 _ 0 0 (M2 a1 a2 a3 a4 a5 a6 a7 q0 q1 z101 z201 z301 z102 z202 z302 z103 z203 z303 z401) 19 #[.val (.ref a1), .val (.int p4), .val (.int p5), .val (.int (0 : Int32)), .val (.int p9), .unset, .unset, .unset, .unset, .unset, .unset] [(.int z623)]
    refine go_istore #[.val (.ref a1), .val (.int p4), .val (.int p5), .val (.int (0 : Int32)), .val (.int p9), .val (.int z623), .unset, .unset, .unset, .unset, .unset] 21 rfl d14_19 rfl rfl ?_
    refine go_iload 23 rfl d14_21 rfl ?_
    refine go_if 31 26 rfl (by decide) rfl d14_23 rfl (fun (hc23_70 : 0 ≤ z623.toInt) => ?_) (fun (hc23_70 : ¬ (0 ≤ z623.toInt)) => ?_)
    · have g2 := hV.s2.l0; have g3 := hV.s2.l1
      refine go_aloadN 32 rfl d14_31 rfl rfl ?_
      refine go_get 0 4 35 rfl d14_32 rfl rfl rfl (wd hw 37 rfl) ?_
      refine go_aloadN 36 rfl d14_35 rfl rfl ?_
      refine go_get 0 0 39 rfl d14_36 rfl rfl rfl (wd hw 27 rfl) ?_
      refine go_iloadN 40 rfl d14_39 rfl ?_
      refine go_iadd 41 rfl d14_40 rfl ?_
      refine go_iaload 42 rfl d14_41 rfl (Mo.el (i := 4) rfl (by decide) rfl) ?_
      refine go_bipush (64 : Int32) 44 rfl d14_42 rfl ?_
      refine go_iload 46 rfl d14_44 rfl ?_
      refine go_isub 47 rfl d14_46 rfl ?_
      have fa4 : ((64 : Int32) - p9).toInt = (64 : Int) - p9.toInt := subE rfl rfl (by omega)
      refine go_callS 50 rfl d14_47 (wd hw 84 rfl) (wd hw 2 rfl) (wd hw 3 rfl) (wd hw 4 rfl) (by decide) (m_min Z a0 hw h0 (mem19 a1 a2 a3 a4 a5 a6 a7 q0 q1 z101 z102 z103 z201 z202 z203 z301 z302 z303 z401) z202 ((64 : Int32) - p9)) (argsL := [(.int z202), (.int ((64 : Int32) - p9))]) (rest := []) rfl (ps := [.int, .int]) (by decide +kernel) rfl rfl 0 rfl (by decide) (by decide) (by decide) (by decide) ?_
      rintro _ _ ⟨z9072, rfl, rfl, hz9072, gz9072⟩
      show Go Bff2 Z a0 h0 _ 0 0 (M2 a1 a2 a3 a4 a5 a6 a7 q0 q1 z101 z201 z301 z102 z202 z302 z103 z203 z303 z401) 50 #[.val (.ref a1), .val (.int p4), .val (.int p5), .val (.int (0 : Int32)), .val (.int p9), .val (.int z623), .unset, .unset, .unset, .unset, .unset] [(.int z9072)]
      have kz9072 : z9072.toInt = z202.toInt ∨ z9072.toInt = ((64 : Int32) - p9).toInt := by rcases gz9072 with h | h <;> rw [h] <;> simp
      refine go_istore #[.val (.ref a1), .val (.int p4), .val (.int p5), .val (.int (0 : Int32)), .val (.int p9), .val (.int z623), .val (.int z9072), .unset, .unset, .unset, .unset] 52 rfl d14_50 rfl rfl ?_
      refine go_aloadN 53 rfl d14_52 rfl rfl ?_
      refine go_get 0 0 56 rfl d14_53 rfl rfl rfl (wd hw 27 rfl) ?_
      refine go_iloadN 57 rfl d14_56 rfl ?_
      refine go_iadd 58 rfl d14_57 rfl ?_
      refine go_callS 61 rfl d14_58 (wd hw 85 rfl) (wd hw 86 rfl) (wd hw 10 rfl) (wd hw 87 rfl) (by decide) (Met.frame (M2 a1 a2 a3 a4 a5 a6 a7 q0 q1 z101 z201 z301 z102 z202 z302 z103 z203 z303 z401) (mt73 Z a0 hw h0)) (argsL := [(.int (2 : Int32))]) (rest := []) rfl (ps := [.int]) (by decide +kernel) rfl rfl 0 rfl (by decide) (by decide) (by decide) (by decide) ?_
      rintro _ _ ⟨_, ⟨rfl, rfl⟩, rfl⟩
      show Go Bff2 Z a0 h0 _ 0 0 (M2 a1 a2 a3 a4 a5 a6 a7 q0 q1 z101 z201 z301 z102 z202 z302 z103 z203 z303 z401) 61 #[.val (.ref a1), .val (.int p4), .val (.int p5), .val (.int (0 : Int32)), .val (.int p9), .val (.int z623), .val (.int z9072), .unset, .unset, .unset, .unset] [(.int (3 : Int32))]
      refine go_istore #[.val (.ref a1), .val (.int p4), .val (.int p5), .val (.int (0 : Int32)), .val (.int p9), .val (.int z623), .val (.int z9072), .val (.int (3 : Int32)), .unset, .unset, .unset] 63 rfl d14_61 rfl rfl ?_
      refine go_iload 65 rfl d14_63 rfl ?_
      refine go_if 233 68 rfl (by decide) rfl d14_65 rfl (fun (hc65 : 0 ≤ z623.toInt) => ?_) (fun (hc65 : ¬ (0 ≤ z623.toInt)) => absurd hc65 (by omega))
      refine go_iload 235 rfl d14_233 rfl ?_
      exact go_ireturn d14_235 rfl (Or.inl rfl) rfl rfl (by decide) (by decide) ⟨_, _, _, _, hV, _, first_yes h5.1 (by omega) hz623 (by omega), rfl, rfl⟩
    · have hz0 := sc_neg hz623 (by omega)
      obtain rfl : z623 = (-1 : Int32) := i32_of (k := -1) (by omega) rfl
      refine go_aloadN 27 rfl d14_26 rfl rfl ?_
      refine go_iconst (1 : Int32) 28 rfl d14_27 rfl ?_
      refine go_callP (host := "") 31 rfl d14_28 (Or.inl (wd hw 80 rfl)) (wd hw 81 rfl) (wd hw 82 rfl) (wd hw 9 rfl) (wd hw 10 rfl) (wd hw 83 rfl) (by decide) (Mo.exa (i := 0) rfl) (m_upd2_1 Z a0 hw h0 P a1 a2 a3 a4 a5 a6 a7 q0 q1 z101 z201 z301 z102 z202 z302 z103 z203 z303 z401 hV.s2 hV.s3 hV.k1) (argsL := [(.int (1 : Int32))]) (rest := []) rfl (ps := [.int]) (by decide +kernel) rfl rfl 0 rfl (by decide) (by decide) (by decide) (by decide) ?_
      rintro _ _ ⟨z624, z625, z626, z627, hz624, rfl, rfl⟩
      show Go Bff2 Z a0 h0 _ 0 0 (M2 a1 a2 a3 a4 a5 a6 a7 q0 q1 z624 z625 z626 z102 z202 z302 z103 z203 z303 z627) 31 #[.val (.ref a1), .val (.int p4), .val (.int p5), .val (.int (0 : Int32)), .val (.int p9), .val (.int (-1 : Int32)), .unset, .unset, .unset, .unset, .unset] []
      have g2 := hV.s2.l0; have g3 := hV.s2.l1
      refine go_aloadN 32 rfl d14_31 rfl rfl ?_
      refine go_get 0 4 35 rfl d14_32 rfl rfl rfl (wd hw 37 rfl) ?_
      refine go_aloadN 36 rfl d14_35 rfl rfl ?_
      refine go_get 0 0 39 rfl d14_36 rfl rfl rfl (wd hw 27 rfl) ?_
      refine go_iloadN 40 rfl d14_39 rfl ?_
      refine go_iadd 41 rfl d14_40 rfl ?_
      refine go_iaload 42 rfl d14_41 rfl (Mo.el (i := 4) rfl (by decide) rfl) ?_
      refine go_bipush (64 : Int32) 44 rfl d14_42 rfl ?_
      refine go_iload 46 rfl d14_44 rfl ?_
      refine go_isub 47 rfl d14_46 rfl ?_
      have fa5 : ((64 : Int32) - p9).toInt = (64 : Int) - p9.toInt := subE rfl rfl (by omega)
      refine go_callS 50 rfl d14_47 (wd hw 84 rfl) (wd hw 2 rfl) (wd hw 3 rfl) (wd hw 4 rfl) (by decide) (m_min Z a0 hw h0 (mem19 a1 a2 a3 a4 a5 a6 a7 q0 q1 z624 z102 z103 z625 z202 z203 z626 z302 z303 z627) z202 ((64 : Int32) - p9)) (argsL := [(.int z202), (.int ((64 : Int32) - p9))]) (rest := []) rfl (ps := [.int, .int]) (by decide +kernel) rfl rfl 0 rfl (by decide) (by decide) (by decide) (by decide) ?_
      rintro _ _ ⟨z9074, rfl, rfl, hz9074, gz9074⟩
      show Go Bff2 Z a0 h0 _ 0 0 (M2 a1 a2 a3 a4 a5 a6 a7 q0 q1 z624 z625 z626 z102 z202 z302 z103 z203 z303 z627) 50 #[.val (.ref a1), .val (.int p4), .val (.int p5), .val (.int (0 : Int32)), .val (.int p9), .val (.int (-1 : Int32)), .unset, .unset, .unset, .unset, .unset] [(.int z9074)]
      have kz9074 : z9074.toInt = z202.toInt ∨ z9074.toInt = ((64 : Int32) - p9).toInt := by rcases gz9074 with h | h <;> rw [h] <;> simp
      refine go_istore #[.val (.ref a1), .val (.int p4), .val (.int p5), .val (.int (0 : Int32)), .val (.int p9), .val (.int (-1 : Int32)), .val (.int z9074), .unset, .unset, .unset, .unset] 52 rfl d14_50 rfl rfl ?_
      refine go_aloadN 53 rfl d14_52 rfl rfl ?_
      refine go_get 0 0 56 rfl d14_53 rfl rfl rfl (wd hw 27 rfl) ?_
      refine go_iloadN 57 rfl d14_56 rfl ?_
      refine go_iadd 58 rfl d14_57 rfl ?_
      refine go_callS 61 rfl d14_58 (wd hw 85 rfl) (wd hw 86 rfl) (wd hw 10 rfl) (wd hw 87 rfl) (by decide) (Met.frame (M2 a1 a2 a3 a4 a5 a6 a7 q0 q1 z624 z625 z626 z102 z202 z302 z103 z203 z303 z627) (mt73 Z a0 hw h0)) (argsL := [(.int (2 : Int32))]) (rest := []) rfl (ps := [.int]) (by decide +kernel) rfl rfl 0 rfl (by decide) (by decide) (by decide) (by decide) ?_
      rintro _ _ ⟨_, ⟨rfl, rfl⟩, rfl⟩
      show Go Bff2 Z a0 h0 _ 0 0 (M2 a1 a2 a3 a4 a5 a6 a7 q0 q1 z624 z625 z626 z102 z202 z302 z103 z203 z303 z627) 61 #[.val (.ref a1), .val (.int p4), .val (.int p5), .val (.int (0 : Int32)), .val (.int p9), .val (.int (-1 : Int32)), .val (.int z9074), .unset, .unset, .unset, .unset] [(.int (3 : Int32))]
      refine go_istore #[.val (.ref a1), .val (.int p4), .val (.int p5), .val (.int (0 : Int32)), .val (.int p9), .val (.int (-1 : Int32)), .val (.int z9074), .val (.int (3 : Int32)), .unset, .unset, .unset] 63 rfl d14_61 rfl rfl ?_
      exact lp2_3 Z a0 hw h0 P a1 a2 a3 a4 a5 a6 a7 q0 q1 z624 z625 z626 z102 z202 z302 z103 z203 z303 z627 p4 p5 z9074 (0 : Int32) p9 (.unset) (Or.inl rfl) (.unset) (Or.inl rfl) (.unset) (Or.inl rfl) h5 hF0 hV.e0 hV.e1 hz624 hV.s2 hV.s3 hC (first_no h5.1 (by omega) (by omega) (by omega) hV.s2 hz623 (by decide) (by omega) (by omega) (by omega))
  · rw [ec]
    refine go_istoreN #[.val (.ref a1), .val (.int p4), .val (.int p5), .val (.int (1 : Int32)), .unset, .unset, .unset, .unset, .unset, .unset, .unset] 5 rfl d14_4 rfl rfl ?_
    refine go_iloadN 6 rfl d14_5 rfl ?_
    refine go_bipush (64 : Int32) 8 rfl d14_6 rfl ?_
    refine go_irem 9 rfl d14_8 rfl (by decide) ?_
    have er := (c_irem p4 (64 : Int32) 64 rfl).1 (by omega)
    generalize p4 % (64 : Int32) = p9 at er ⊢
    refine go_istore #[.val (.ref a1), .val (.int p4), .val (.int p5), .val (.int (1 : Int32)), .val (.int p9), .unset, .unset, .unset, .unset, .unset, .unset] 11 rfl d14_9 rfl rfl ?_
    refine go_aloadN 12 rfl d14_11 rfl rfl ?_
    refine go_iloadN 13 rfl d14_12 rfl ?_
    refine go_iload 15 rfl d14_13 rfl ?_
    refine go_iloadN 16 rfl d14_15 rfl ?_
    refine go_callP (host := "") 19 rfl d14_16 (Or.inl (wd hw 76 rfl)) (wd hw 77 rfl) (wd hw 78 rfl) (wd hw 9 rfl) (wd hw 10 rfl) (wd hw 79 rfl) (by decide) (Mo.exa (i := 0) rfl) (m_scan Z a0 hw h0 P a1 a2 a3 a4 a5 a6 a7 [(.long q0), (.long q1)] [(.long (0 : Int64)), (.long (0 : Int64))] [(.int (0 : Int32)), (.int z101), (.int z102), (.int z103)] [(.int (0 : Int32)), (.int z201), (.int z202), (.int z203)] [(.int (0 : Int32)), (.int z301), (.int z302), (.int z303)] [(.int (0 : Int32)), (.int z401)] (1 : Int32) (2 : Int32) p9 p5 q1 1 128 p4.toInt rfl rfl (by decide) hV.e1 rfl (by decide) (by omega) h5 (by decide) (by omega)) (argsL := [(.int (1 : Int32)), (.int p9), (.int p5)]) (rest := []) rfl (ps := [.int, .int, .int]) (by decide +kernel) rfl rfl 0 rfl (by decide) (by decide) (by decide) (by decide) ?_
    rintro _ _ ⟨z628, rfl, rfl, hz628⟩
    show Go Bff2 Z a0 h0 _ 0 0 (M2 a1 a2 a3 a4 a5 a6 a7 q0 q1 z101 z201 z301 z102 z202 z302 z103 z203 z303 z401) 19 #[.val (.ref a1), .val (.int p4), .val (.int p5), .val (.int (1 : Int32)), .val (.int p9), .unset, .unset, .unset, .unset, .unset, .unset] [(.int z628)]
    refine go_istore #[.val (.ref a1), .val (.int p4), .val (.int p5), .val (.int (1 : Int32)), .val (.int p9), .val (.int z628), .unset, .unset, .unset, .unset, .unset] 21 rfl d14_19 rfl rfl ?_
    refine go_iload 23 rfl d14_21 rfl ?_
    refine go_if 31 26 rfl (by decide) rfl d14_23 rfl (fun (hc23_74 : 0 ≤ z628.toInt) => ?_) (fun (hc23_74 : ¬ (0 ≤ z628.toInt)) => ?_)
    · have g2 := hV.s3.l0; have g3 := hV.s3.l1
      refine go_aloadN 32 rfl d14_31 rfl rfl ?_
      refine go_get 0 4 35 rfl d14_32 rfl rfl rfl (wd hw 37 rfl) ?_
      refine go_aloadN 36 rfl d14_35 rfl rfl ?_
      refine go_get 0 0 39 rfl d14_36 rfl rfl rfl (wd hw 27 rfl) ?_
      refine go_iloadN 40 rfl d14_39 rfl ?_
      refine go_iadd 41 rfl d14_40 rfl ?_
      refine go_iaload 42 rfl d14_41 rfl (Mo.el (i := 4) rfl (by decide) rfl) ?_
      refine go_bipush (64 : Int32) 44 rfl d14_42 rfl ?_
      refine go_iload 46 rfl d14_44 rfl ?_
      refine go_isub 47 rfl d14_46 rfl ?_
      have fa6 : ((64 : Int32) - p9).toInt = (64 : Int) - p9.toInt := subE rfl rfl (by omega)
      refine go_callS 50 rfl d14_47 (wd hw 84 rfl) (wd hw 2 rfl) (wd hw 3 rfl) (wd hw 4 rfl) (by decide) (m_min Z a0 hw h0 (mem19 a1 a2 a3 a4 a5 a6 a7 q0 q1 z101 z102 z103 z201 z202 z203 z301 z302 z303 z401) z203 ((64 : Int32) - p9)) (argsL := [(.int z203), (.int ((64 : Int32) - p9))]) (rest := []) rfl (ps := [.int, .int]) (by decide +kernel) rfl rfl 0 rfl (by decide) (by decide) (by decide) (by decide) ?_
      rintro _ _ ⟨z9076, rfl, rfl, hz9076, gz9076⟩
      show Go Bff2 Z a0 h0 _ 0 0 (M2 a1 a2 a3 a4 a5 a6 a7 q0 q1 z101 z201 z301 z102 z202 z302 z103 z203 z303 z401) 50 #[.val (.ref a1), .val (.int p4), .val (.int p5), .val (.int (1 : Int32)), .val (.int p9), .val (.int z628), .unset, .unset, .unset, .unset, .unset] [(.int z9076)]
      have kz9076 : z9076.toInt = z203.toInt ∨ z9076.toInt = ((64 : Int32) - p9).toInt := by rcases gz9076 with h | h <;> rw [h] <;> simp
      refine go_istore #[.val (.ref a1), .val (.int p4), .val (.int p5), .val (.int (1 : Int32)), .val (.int p9), .val (.int z628), .val (.int z9076), .unset, .unset, .unset, .unset] 52 rfl d14_50 rfl rfl ?_
      refine go_aloadN 53 rfl d14_52 rfl rfl ?_
      refine go_get 0 0 56 rfl d14_53 rfl rfl rfl (wd hw 27 rfl) ?_
      refine go_iloadN 57 rfl d14_56 rfl ?_
      refine go_iadd 58 rfl d14_57 rfl ?_
      refine go_callS 61 rfl d14_58 (wd hw 85 rfl) (wd hw 86 rfl) (wd hw 10 rfl) (wd hw 87 rfl) (by decide) (Met.frame (M2 a1 a2 a3 a4 a5 a6 a7 q0 q1 z101 z201 z301 z102 z202 z302 z103 z203 z303 z401) (mt70 Z a0 hw h0)) (argsL := [(.int (3 : Int32))]) (rest := []) rfl (ps := [.int]) (by decide +kernel) rfl rfl 0 rfl (by decide) (by decide) (by decide) (by decide) ?_
      rintro _ _ ⟨_, ⟨rfl, rfl⟩, rfl⟩
      show Go Bff2 Z a0 h0 _ 0 0 (M2 a1 a2 a3 a4 a5 a6 a7 q0 q1 z101 z201 z301 z102 z202 z302 z103 z203 z303 z401) 61 #[.val (.ref a1), .val (.int p4), .val (.int p5), .val (.int (1 : Int32)), .val (.int p9), .val (.int z628), .val (.int z9076), .unset, .unset, .unset, .unset] [(.int (0 : Int32))]
      refine go_istore #[.val (.ref a1), .val (.int p4), .val (.int p5), .val (.int (1 : Int32)), .val (.int p9), .val (.int z628), .val (.int z9076), .val (.int (0 : Int32)), .unset, .unset, .unset] 63 rfl d14_61 rfl rfl ?_
      refine go_iload 65 rfl d14_63 rfl ?_
      refine go_if 233 68 rfl (by decide) rfl d14_65 rfl (fun (hc65 : 0 ≤ z628.toInt) => ?_) (fun (hc65 : ¬ (0 ≤ z628.toInt)) => absurd hc65 (by omega))
      refine go_iload 235 rfl d14_233 rfl ?_
      exact go_ireturn d14_235 rfl (Or.inl rfl) rfl rfl (by decide) (by decide) ⟨_, _, _, _, hV, _, first_yes h5.1 (by omega) hz628 (by omega), rfl, rfl⟩
    · have hz0 := sc_neg hz628 (by omega)
      obtain rfl : z628 = (-1 : Int32) := i32_of (k := -1) (by omega) rfl
      refine go_aloadN 27 rfl d14_26 rfl rfl ?_
      refine go_iconst (1 : Int32) 28 rfl d14_27 rfl ?_
      refine go_callP (host := "") 31 rfl d14_28 (Or.inl (wd hw 80 rfl)) (wd hw 81 rfl) (wd hw 82 rfl) (wd hw 9 rfl) (wd hw 10 rfl) (wd hw 83 rfl) (by decide) (Mo.exa (i := 0) rfl) (m_upd2_1 Z a0 hw h0 P a1 a2 a3 a4 a5 a6 a7 q0 q1 z101 z201 z301 z102 z202 z302 z103 z203 z303 z401 hV.s2 hV.s3 hV.k1) (argsL := [(.int (1 : Int32))]) (rest := []) rfl (ps := [.int]) (by decide +kernel) rfl rfl 0 rfl (by decide) (by decide) (by decide) (by decide) ?_
      rintro _ _ ⟨z629, z630, z631, z632, hz629, rfl, rfl⟩
      show Go Bff2 Z a0 h0 _ 0 0 (M2 a1 a2 a3 a4 a5 a6 a7 q0 q1 z629 z630 z631 z102 z202 z302 z103 z203 z303 z632) 31 #[.val (.ref a1), .val (.int p4), .val (.int p5), .val (.int (1 : Int32)), .val (.int p9), .val (.int (-1 : Int32)), .unset, .unset, .unset, .unset, .unset] []
      have g2 := hV.s3.l0; have g3 := hV.s3.l1
      refine go_aloadN 32 rfl d14_31 rfl rfl ?_
      refine go_get 0 4 35 rfl d14_32 rfl rfl rfl (wd hw 37 rfl) ?_
      refine go_aloadN 36 rfl d14_35 rfl rfl ?_
      refine go_get 0 0 39 rfl d14_36 rfl rfl rfl (wd hw 27 rfl) ?_
      refine go_iloadN 40 rfl d14_39 rfl ?_
      refine go_iadd 41 rfl d14_40 rfl ?_
      refine go_iaload 42 rfl d14_41 rfl (Mo.el (i := 4) rfl (by decide) rfl) ?_
      refine go_bipush (64 : Int32) 44 rfl d14_42 rfl ?_
      refine go_iload 46 rfl d14_44 rfl ?_
      refine go_isub 47 rfl d14_46 rfl ?_
      have fa7 : ((64 : Int32) - p9).toInt = (64 : Int) - p9.toInt := subE rfl rfl (by omega)
      refine go_callS 50 rfl d14_47 (wd hw 84 rfl) (wd hw 2 rfl) (wd hw 3 rfl) (wd hw 4 rfl) (by decide) (m_min Z a0 hw h0 (mem19 a1 a2 a3 a4 a5 a6 a7 q0 q1 z629 z102 z103 z630 z202 z203 z631 z302 z303 z632) z203 ((64 : Int32) - p9)) (argsL := [(.int z203), (.int ((64 : Int32) - p9))]) (rest := []) rfl (ps := [.int, .int]) (by decide +kernel) rfl rfl 0 rfl (by decide) (by decide) (by decide) (by decide) ?_
      rintro _ _ ⟨z9077, rfl, rfl, hz9077, gz9077⟩
      show Go Bff2 Z a0 h0 _ 0 0 (M2 a1 a2 a3 a4 a5 a6 a7 q0 q1 z629 z630 z631 z102 z202 z302 z103 z203 z303 z632) 50 #[.val (.ref a1), .val (.int p4), .val (.int p5), .val (.int (1 : Int32)), .val (.int p9), .val (.int (-1 : Int32)), .unset, .unset, .unset, .unset, .unset] [(.int z9077)]
      have kz9077 : z9077.toInt = z203.toInt ∨ z9077.toInt = ((64 : Int32) - p9).toInt := by rcases gz9077 with h | h <;> rw [h] <;> simp
      refine go_istore #[.val (.ref a1), .val (.int p4), .val (.int p5), .val (.int (1 : Int32)), .val (.int p9), .val (.int (-1 : Int32)), .val (.int z9077), .unset, .unset, .unset, .unset] 52 rfl d14_50 rfl rfl ?_
      refine go_aloadN 53 rfl d14_52 rfl rfl ?_
      refine go_get 0 0 56 rfl d14_53 rfl rfl rfl (wd hw 27 rfl) ?_
      refine go_iloadN 57 rfl d14_56 rfl ?_
      refine go_iadd 58 rfl d14_57 rfl ?_
      refine go_callS 61 rfl d14_58 (wd hw 85 rfl) (wd hw 86 rfl) (wd hw 10 rfl) (wd hw 87 rfl) (by decide) (Met.frame (M2 a1 a2 a3 a4 a5 a6 a7 q0 q1 z629 z630 z631 z102 z202 z302 z103 z203 z303 z632) (mt70 Z a0 hw h0)) (argsL := [(.int (3 : Int32))]) (rest := []) rfl (ps := [.int]) (by decide +kernel) rfl rfl 0 rfl (by decide) (by decide) (by decide) (by decide) ?_
      rintro _ _ ⟨_, ⟨rfl, rfl⟩, rfl⟩
      show Go Bff2 Z a0 h0 _ 0 0 (M2 a1 a2 a3 a4 a5 a6 a7 q0 q1 z629 z630 z631 z102 z202 z302 z103 z203 z303 z632) 61 #[.val (.ref a1), .val (.int p4), .val (.int p5), .val (.int (1 : Int32)), .val (.int p9), .val (.int (-1 : Int32)), .val (.int z9077), .unset, .unset, .unset, .unset] [(.int (0 : Int32))]
      refine go_istore #[.val (.ref a1), .val (.int p4), .val (.int p5), .val (.int (1 : Int32)), .val (.int p9), .val (.int (-1 : Int32)), .val (.int z9077), .val (.int (0 : Int32)), .unset, .unset, .unset] 63 rfl d14_61 rfl rfl ?_
      exact lp2_0 Z a0 hw h0 P a1 a2 a3 a4 a5 a6 a7 q0 q1 z629 z630 z631 z102 z202 z302 z103 z203 z303 z632 p4 p5 z9077 (1 : Int32) p9 (.unset) (Or.inl rfl) (.unset) (Or.inl rfl) (.unset) (Or.inl rfl) h5 hF0 hV.e0 hV.e1 hz629 hV.s2 hV.s3 hC (first_no h5.1 (by omega) (by omega) (by omega) hV.s3 hz628 (by decide) (by omega) (by omega) (by omega))
def B17_81 : Bdy := (⟨"com/example/clauseline/clauseline/service/TakenPieces", "next", "(I)I"⟩, prog_101_method_11_code, 2, (some .int), ({ frames := 0, cells := 0, slots := 0, locals := 0 } : Room))
theorem mt81 (Z : State) (a0 : Array Value) (hw : ∀ d ∈ tables_1, d.before a0 Z = true) (h0 : Heap)  :
    Met B17_81 Z a0 h0 #[(.int (7 : Int32))] [] (Ret (some (.int (0 : Int32))) []) := by
  refine Met.of pn17 (ls := #[.val (.int (7 : Int32)), .unset]) (fun m => by first | (simp [entryFrame, mkF, argsToLocals, Value.category, B17_81]; done) | rfl) ?_
  refine go_iloadN 1 rfl d17_0 rfl ?_
  refine go_istoreN #[.val (.int (7 : Int32)), .val (.int (7 : Int32))] 2 rfl d17_1 rfl rfl ?_
  refine go_iloadN 3 rfl d17_2 rfl ?_
  refine go_iconst (2 : Int32) 4 rfl d17_3 rfl ?_
  refine go_irem 5 rfl d17_4 rfl (by decide) ?_
  refine go_iconst (1 : Int32) 6 rfl d17_5 rfl ?_
  refine go_icmp 16 9 rfl (by decide) rfl d17_6 rfl (fun (hc6 : (1 : Int) ≠ (1 : Int)) => absurd hc6 (by decide)) (fun (hc6 : ¬ ((1 : Int) ≠ (1 : Int))) => ?_)
  refine go_iloadN 10 rfl d17_9 rfl ?_
  refine go_iconst (2 : Int32) 11 rfl d17_10 rfl ?_
  refine go_idiv 12 rfl d17_11 rfl (by decide) ?_
  refine go_istoreN #[.val (.int (7 : Int32)), .val (.int (3 : Int32))] 13 rfl d17_12 rfl rfl ?_
  refine go_goto 2 (by decide) rfl d17_13 ?_
  refine go_iloadN 3 rfl d17_2 rfl ?_
  refine go_iconst (2 : Int32) 4 rfl d17_3 rfl ?_
  refine go_irem 5 rfl d17_4 rfl (by decide) ?_
  refine go_iconst (1 : Int32) 6 rfl d17_5 rfl ?_
  refine go_icmp 16 9 rfl (by decide) rfl d17_6 rfl (fun (hc6 : (1 : Int) ≠ (1 : Int)) => absurd hc6 (by decide)) (fun (hc6 : ¬ ((1 : Int) ≠ (1 : Int))) => ?_)
  refine go_iloadN 10 rfl d17_9 rfl ?_
  refine go_iconst (2 : Int32) 11 rfl d17_10 rfl ?_
  refine go_idiv 12 rfl d17_11 rfl (by decide) ?_
  refine go_istoreN #[.val (.int (7 : Int32)), .val (.int (1 : Int32))] 13 rfl d17_12 rfl rfl ?_
  refine go_goto 2 (by decide) rfl d17_13 ?_
  refine go_iloadN 3 rfl d17_2 rfl ?_
  refine go_iconst (2 : Int32) 4 rfl d17_3 rfl ?_
  refine go_irem 5 rfl d17_4 rfl (by decide) ?_
  refine go_iconst (1 : Int32) 6 rfl d17_5 rfl ?_
  refine go_icmp 16 9 rfl (by decide) rfl d17_6 rfl (fun (hc6 : (1 : Int) ≠ (1 : Int)) => absurd hc6 (by decide)) (fun (hc6 : ¬ ((1 : Int) ≠ (1 : Int))) => ?_)
  refine go_iloadN 10 rfl d17_9 rfl ?_
  refine go_iconst (2 : Int32) 11 rfl d17_10 rfl ?_
  refine go_idiv 12 rfl d17_11 rfl (by decide) ?_
  refine go_istoreN #[.val (.int (7 : Int32)), .val (.int (0 : Int32))] 13 rfl d17_12 rfl rfl ?_
  refine go_goto 2 (by decide) rfl d17_13 ?_
  refine go_iloadN 3 rfl d17_2 rfl ?_
  refine go_iconst (2 : Int32) 4 rfl d17_3 rfl ?_
  refine go_irem 5 rfl d17_4 rfl (by decide) ?_
  refine go_iconst (1 : Int32) 6 rfl d17_5 rfl ?_
  refine go_icmp 16 9 rfl (by decide) rfl d17_6 rfl (fun (hc6 : (0 : Int) ≠ (1 : Int)) => ?_) (fun (hc6 : ¬ ((0 : Int) ≠ (1 : Int))) => absurd hc6 (by decide))
  refine go_iloadN 17 rfl d17_16 rfl ?_
  refine go_if 24 20 rfl (by decide) rfl d17_17 rfl (fun (hc17 : (0 : Int) ≠ 0) => absurd hc17 (by decide)) (fun (hc17 : ¬ ((0 : Int) ≠ 0)) => ?_)
  refine go_iconst (0 : Int32) 21 rfl d17_20 rfl ?_
  refine go_goto 27 (by decide) rfl d17_21 ?_
  exact go_ireturn d17_27 rfl (Or.inl rfl) rfl rfl (by decide) (by decide) ⟨rfl, rfl⟩
def B17_85 : Bdy := (⟨"com/example/clauseline/clauseline/service/TakenPieces", "next", "(I)I"⟩, prog_101_method_11_code, 2, (some .int), ({ frames := 0, cells := 0, slots := 0, locals := 0 } : Room))
theorem mt85 (Z : State) (a0 : Array Value) (hw : ∀ d ∈ tables_1, d.before a0 Z = true) (h0 : Heap)  :
    Met B17_85 Z a0 h0 #[(.int (6 : Int32))] [] (Ret (some (.int (7 : Int32))) []) := by
  refine Met.of pn17 (ls := #[.val (.int (6 : Int32)), .unset]) (fun m => by first | (simp [entryFrame, mkF, argsToLocals, Value.category, B17_85]; done) | rfl) ?_
  refine go_iloadN 1 rfl d17_0 rfl ?_
  refine go_istoreN #[.val (.int (6 : Int32)), .val (.int (6 : Int32))] 2 rfl d17_1 rfl rfl ?_
  refine go_iloadN 3 rfl d17_2 rfl ?_
  refine go_iconst (2 : Int32) 4 rfl d17_3 rfl ?_
  refine go_irem 5 rfl d17_4 rfl (by decide) ?_
  refine go_iconst (1 : Int32) 6 rfl d17_5 rfl ?_
  refine go_icmp 16 9 rfl (by decide) rfl d17_6 rfl (fun (hc6 : (0 : Int) ≠ (1 : Int)) => ?_) (fun (hc6 : ¬ ((0 : Int) ≠ (1 : Int))) => absurd hc6 (by decide))
  refine go_iloadN 17 rfl d17_16 rfl ?_
  refine go_if 24 20 rfl (by decide) rfl d17_17 rfl (fun (hc17 : (6 : Int) ≠ 0) => ?_) (fun (hc17 : ¬ ((6 : Int) ≠ 0)) => absurd hc17 (by decide))
  refine go_iloadN 25 rfl d17_24 rfl ?_
  refine go_iconst (1 : Int32) 26 rfl d17_25 rfl ?_
  refine go_iadd 27 rfl d17_26 rfl ?_
  show Go B17_85 Z a0 h0 _ 0 0 [] 27 #[.val (.int (6 : Int32)), .val (.int (6 : Int32))] [(.int (7 : Int32))]
  exact go_ireturn d17_27 rfl (Or.inl rfl) rfl rfl (by decide) (by decide) ⟨rfl, rfl⟩
def B17_92 : Bdy := (⟨"com/example/clauseline/clauseline/service/TakenPieces", "next", "(I)I"⟩, prog_101_method_11_code, 2, (some .int), ({ frames := 0, cells := 0, slots := 0, locals := 0 } : Room))
theorem mt92 (Z : State) (a0 : Array Value) (hw : ∀ d ∈ tables_1, d.before a0 Z = true) (h0 : Heap)  :
    Met B17_92 Z a0 h0 #[(.int (5 : Int32))] [] (Ret (some (.int (3 : Int32))) []) := by
  refine Met.of pn17 (ls := #[.val (.int (5 : Int32)), .unset]) (fun m => by first | (simp [entryFrame, mkF, argsToLocals, Value.category, B17_92]; done) | rfl) ?_
  refine go_iloadN 1 rfl d17_0 rfl ?_
  refine go_istoreN #[.val (.int (5 : Int32)), .val (.int (5 : Int32))] 2 rfl d17_1 rfl rfl ?_
  refine go_iloadN 3 rfl d17_2 rfl ?_
  refine go_iconst (2 : Int32) 4 rfl d17_3 rfl ?_
  refine go_irem 5 rfl d17_4 rfl (by decide) ?_
  refine go_iconst (1 : Int32) 6 rfl d17_5 rfl ?_
  refine go_icmp 16 9 rfl (by decide) rfl d17_6 rfl (fun (hc6 : (1 : Int) ≠ (1 : Int)) => absurd hc6 (by decide)) (fun (hc6 : ¬ ((1 : Int) ≠ (1 : Int))) => ?_)
  refine go_iloadN 10 rfl d17_9 rfl ?_
  refine go_iconst (2 : Int32) 11 rfl d17_10 rfl ?_
  refine go_idiv 12 rfl d17_11 rfl (by decide) ?_
  refine go_istoreN #[.val (.int (5 : Int32)), .val (.int (2 : Int32))] 13 rfl d17_12 rfl rfl ?_
  refine go_goto 2 (by decide) rfl d17_13 ?_
  refine go_iloadN 3 rfl d17_2 rfl ?_
  refine go_iconst (2 : Int32) 4 rfl d17_3 rfl ?_
  refine go_irem 5 rfl d17_4 rfl (by decide) ?_
  refine go_iconst (1 : Int32) 6 rfl d17_5 rfl ?_
  refine go_icmp 16 9 rfl (by decide) rfl d17_6 rfl (fun (hc6 : (0 : Int) ≠ (1 : Int)) => ?_) (fun (hc6 : ¬ ((0 : Int) ≠ (1 : Int))) => absurd hc6 (by decide))
  refine go_iloadN 17 rfl d17_16 rfl ?_
  refine go_if 24 20 rfl (by decide) rfl d17_17 rfl (fun (hc17 : (2 : Int) ≠ 0) => ?_) (fun (hc17 : ¬ ((2 : Int) ≠ 0)) => absurd hc17 (by decide))
  refine go_iloadN 25 rfl d17_24 rfl ?_
  refine go_iconst (1 : Int32) 26 rfl d17_25 rfl ?_
  refine go_iadd 27 rfl d17_26 rfl ?_
  show Go B17_92 Z a0 h0 _ 0 0 [] 27 #[.val (.int (5 : Int32)), .val (.int (2 : Int32))] [(.int (3 : Int32))]
  exact go_ireturn d17_27 rfl (Or.inl rfl) rfl rfl (by decide) (by decide) ⟨rfl, rfl⟩
def B17_95 : Bdy := (⟨"com/example/clauseline/clauseline/service/TakenPieces", "next", "(I)I"⟩, prog_101_method_11_code, 2, (some .int), ({ frames := 0, cells := 0, slots := 0, locals := 0 } : Room))
theorem mt95 (Z : State) (a0 : Array Value) (hw : ∀ d ∈ tables_1, d.before a0 Z = true) (h0 : Heap)  :
    Met B17_95 Z a0 h0 #[(.int (4 : Int32))] [] (Ret (some (.int (5 : Int32))) []) := by
  refine Met.of pn17 (ls := #[.val (.int (4 : Int32)), .unset]) (fun m => by first | (simp [entryFrame, mkF, argsToLocals, Value.category, B17_95]; done) | rfl) ?_
  refine go_iloadN 1 rfl d17_0 rfl ?_
  refine go_istoreN #[.val (.int (4 : Int32)), .val (.int (4 : Int32))] 2 rfl d17_1 rfl rfl ?_
  refine go_iloadN 3 rfl d17_2 rfl ?_
  refine go_iconst (2 : Int32) 4 rfl d17_3 rfl ?_
  refine go_irem 5 rfl d17_4 rfl (by decide) ?_
  refine go_iconst (1 : Int32) 6 rfl d17_5 rfl ?_
  refine go_icmp 16 9 rfl (by decide) rfl d17_6 rfl (fun (hc6 : (0 : Int) ≠ (1 : Int)) => ?_) (fun (hc6 : ¬ ((0 : Int) ≠ (1 : Int))) => absurd hc6 (by decide))
  refine go_iloadN 17 rfl d17_16 rfl ?_
  refine go_if 24 20 rfl (by decide) rfl d17_17 rfl (fun (hc17 : (4 : Int) ≠ 0) => ?_) (fun (hc17 : ¬ ((4 : Int) ≠ 0)) => absurd hc17 (by decide))
  refine go_iloadN 25 rfl d17_24 rfl ?_
  refine go_iconst (1 : Int32) 26 rfl d17_25 rfl ?_
  refine go_iadd 27 rfl d17_26 rfl ?_
  show Go B17_95 Z a0 h0 _ 0 0 [] 27 #[.val (.int (4 : Int32)), .val (.int (4 : Int32))] [(.int (5 : Int32))]
  exact go_ireturn d17_27 rfl (Or.inl rfl) rfl rfl (by decide) (by decide) ⟨rfl, rfl⟩
theorem d14_224 : decode prog_101_method_4_code 224 = .ok (.iconst 2, 1) := by decide +kernel
theorem d14_225 : decode prog_101_method_4_code 225 = .ok (.iload 7, 2) := by decide +kernel
theorem d14_227 : decode prog_101_method_4_code 227 = .ok (.imul, 1) := by decide +kernel
theorem d14_228 : decode prog_101_method_4_code 228 = .ok (.istore 7, 2) := by decide +kernel
def Bff4 : Bdy := (⟨"com/example/clauseline/clauseline/service/TakenPieces", "firstFree", "(II)I"⟩, prog_101_method_4_code, 11, (some .int), ({ frames := 5, cells := 0, slots := 0, locals := 72 } : Room))
theorem lp4_0 (Z : State) (a0 : Array Value) (hw : ∀ d ∈ tables_1, d.before a0 Z = true) (h0 : Heap) (P : Fr1) (a1 a2 a3 a4 a5 a6 a7 : Addr) (q0 q1 q2 q3 : Int64) (z101 z201 z301 z102 z202 z302 z103 z203 z303 z104 z204 z304 z105 z205 z305 z106 z206 z306 z107 z207 z307 z401 z402 z403 : Int32) (p4 p5 p7 p8 p9 : Int32) (s50 : Slot) (h50 : s50 = .unset ∨ ∃ w, s50 = .val w ∧ w.category = 1) (s51 : Slot) (h51 : s51 = .unset ∨ ∃ w, s51 = .val w ∧ w.category = 1) (s52 : Slot) (h52 : s52 = .unset ∨ ∃ w, s52 = .val w ∧ w.category = 1) (h5 : 0 < p5.toInt ∧ p5.toInt ≤ 256) (hF0 : 0 ≤ p4.toInt) (e0 : Fre P 0 q0) (e1 : Fre P 1 q1) (e2 : Fre P 2 q2) (e3 : Fre P 3 q3) (s1 : Sm P 0 256 z101.toInt z201.toInt z301.toInt) (s2 : Sm P 0 128 z102.toInt z202.toInt z302.toInt) (s3 : Sm P 128 256 z103.toInt z203.toInt z303.toInt) (s4 : Sm P 0 64 z104.toInt z204.toInt z304.toInt) (s5 : Sm P 64 128 z105.toInt z205.toInt z305.toInt) (s6 : Sm P 128 192 z106.toInt z206.toInt z306.toInt) (s7 : Sm P 192 256 z107.toInt z207.toInt z307.toInt) (hC : ∀ x, 256 ≤ x → ¬ P x) (hI : LI P p4.toInt p5.toInt 256 p7.toInt) :
    Go Bff4 Z a0 h0 (fun v ds => ∃ y10 y11 y12 y13 y20 y21 y22 y23 y30 y31 y32 y33 : Int32, Inv4 P q0 q1 q2 q3 y10 y11 y12 y20 y21 y22 y30 y31 y32 z104 z204 z304 z105 z205 z305 z106 z206 z306 z107 z207 z307 y13 y23 y33 ∧ ∃ z : Int32, Ans P p4.toInt p5.toInt z.toInt ∧ Ret (some (.int z)) (M4 a1 a2 a3 a4 a5 a6 a7 q0 q1 q2 q3 y10 y11 y12 y20 y21 y22 y30 y31 y32 z104 z204 z304 z105 z205 z305 z106 z206 z306 z107 z207 z307 y13 y23 y33) v ds) 0 0 (M4 a1 a2 a3 a4 a5 a6 a7 q0 q1 q2 q3 z101 z201 z301 z102 z202 z302 z103 z203 z303 z104 z204 z304 z105 z205 z305 z106 z206 z306 z107 z207 z307 z401 z402 z403) 63 #[.val (.ref a1), .val (.int p4), .val (.int p5), .val (.int p8), .val (.int p9), .val (.int (-1 : Int32)), .val (.int p7), .val (.int (0 : Int32)), s50, s51, s52] [] := by
  show Go Bff4 Z a0 h0 _ 0 0 (M4 a1 a2 a3 a4 a5 a6 a7 q0 q1 q2 q3 z101 z201 z301 z102 z202 z302 z103 z203 z303 z104 z204 z304 z105 z205 z305 z106 z206 z306 z107 z207 z307 z401 z402 z403) 63 #[.val (.ref a1), .val (.int p4), .val (.int p5), .val (.int p8), .val (.int p9), .val (.int (-1 : Int32)), .val (.int p7), .val (.int (0 : Int32)), s50, s51, s52] []
  have g0 := hI.r0; have g1 := hI.r1
  refine go_iload 65 rfl d14_63 rfl ?_
  refine go_if 233 68 rfl (by decide) rfl d14_65 rfl (fun (hc65 : 0 ≤ (-1 : Int)) => absurd hc65 (by decide)) (fun (hc65 : ¬ (0 ≤ (-1 : Int))) => ?_)
  refine go_iload 70 rfl d14_68 rfl ?_
  refine go_if 233 73 rfl (by decide) rfl d14_70 rfl (fun (hc70 : (0 : Int) ≤ 0) => ?_) (fun (hc70 : ¬ ((0 : Int) ≤ 0)) => absurd hc70 (by decide))
  refine go_iload 235 rfl d14_233 rfl ?_
  exact go_ireturn d14_235 rfl (Or.inl rfl) rfl rfl (by decide) (by decide) ⟨_, _, _, _, _, _, _, _, _, _, _, _, (Inv4.mk e0 e1 e2 e3 s4 s5 s6 s7 (fun _ => ⟨s1, s2, s3⟩) (fun _ => s2) (fun _ => s3)), (-1 : Int32), (show Ans P _ _ (-1 : Int32).toInt from hI.fin h5.1 hC), rfl, rfl⟩
theorem lp4_7 (Z : State) (a0 : Array Value) (hw : ∀ d ∈ tables_1, d.before a0 Z = true) (h0 : Heap) (P : Fr1) (a1 a2 a3 a4 a5 a6 a7 : Addr) (q0 q1 q2 q3 : Int64) (z101 z201 z301 z102 z202 z302 z103 z203 z303 z104 z204 z304 z105 z205 z305 z106 z206 z306 z107 z207 z307 z401 z402 z403 : Int32) (p4 p5 p7 p8 p9 : Int32) (s50 : Slot) (h50 : s50 = .unset ∨ ∃ w, s50 = .val w ∧ w.category = 1) (s51 : Slot) (h51 : s51 = .unset ∨ ∃ w, s51 = .val w ∧ w.category = 1) (s52 : Slot) (h52 : s52 = .unset ∨ ∃ w, s52 = .val w ∧ w.category = 1) (h5 : 0 < p5.toInt ∧ p5.toInt ≤ 256) (hF0 : 0 ≤ p4.toInt) (e0 : Fre P 0 q0) (e1 : Fre P 1 q1) (e2 : Fre P 2 q2) (e3 : Fre P 3 q3) (s1 : Sm P 0 256 z101.toInt z201.toInt z301.toInt) (s2 : Sm P 0 128 z102.toInt z202.toInt z302.toInt) (s3 : Sm P 128 256 z103.toInt z203.toInt z303.toInt) (s4 : Sm P 0 64 z104.toInt z204.toInt z304.toInt) (s5 : Sm P 64 128 z105.toInt z205.toInt z305.toInt) (s6 : Sm P 128 192 z106.toInt z206.toInt z306.toInt) (s7 : Sm P 192 256 z107.toInt z207.toInt z307.toInt) (hC : ∀ x, 256 ≤ x → ¬ P x) (hI : LI P p4.toInt p5.toInt 192 p7.toInt) :
    Go Bff4 Z a0 h0 (fun v ds => ∃ y10 y11 y12 y13 y20 y21 y22 y23 y30 y31 y32 y33 : Int32, Inv4 P q0 q1 q2 q3 y10 y11 y12 y20 y21 y22 y30 y31 y32 z104 z204 z304 z105 z205 z305 z106 z206 z306 z107 z207 z307 y13 y23 y33 ∧ ∃ z : Int32, Ans P p4.toInt p5.toInt z.toInt ∧ Ret (some (.int z)) (M4 a1 a2 a3 a4 a5 a6 a7 q0 q1 q2 q3 y10 y11 y12 y20 y21 y22 y30 y31 y32 z104 z204 z304 z105 z205 z305 z106 z206 z306 z107 z207 z307 y13 y23 y33) v ds) 0 0 (M4 a1 a2 a3 a4 a5 a6 a7 q0 q1 q2 q3 z101 z201 z301 z102 z202 z302 z103 z203 z303 z104 z204 z304 z105 z205 z305 z106 z206 z306 z107 z207 z307 z401 z402 z403) 63 #[.val (.ref a1), .val (.int p4), .val (.int p5), .val (.int p8), .val (.int p9), .val (.int (-1 : Int32)), .val (.int p7), .val (.int (7 : Int32)), s50, s51, s52] [] := by
  show Go Bff4 Z a0 h0 _ 0 0 (M4 a1 a2 a3 a4 a5 a6 a7 q0 q1 q2 q3 z101 z201 z301 z102 z202 z302 z103 z203 z303 z104 z204 z304 z105 z205 z305 z106 z206 z306 z107 z207 z307 z401 z402 z403) 63 #[.val (.ref a1), .val (.int p4), .val (.int p5), .val (.int p8), .val (.int p9), .val (.int (-1 : Int32)), .val (.int p7), .val (.int (7 : Int32)), s50, s51, s52] []
  have g0 := hI.r0; have g1 := hI.r1
  have g2 := s7.f0; have g3 := s7.f1; have g4 := s7.l0; have g5 := s7.l1
  refine go_iload 65 rfl d14_63 rfl ?_
  refine go_if 233 68 rfl (by decide) rfl d14_65 rfl (fun (hc65 : 0 ≤ (-1 : Int)) => absurd hc65 (by decide)) (fun (hc65 : ¬ (0 ≤ (-1 : Int))) => ?_)
  refine go_iload 70 rfl d14_68 rfl ?_
  refine go_if 233 73 rfl (by decide) rfl d14_70 rfl (fun (hc70 : (7 : Int) ≤ 0) => absurd hc70 (by decide)) (fun (hc70 : ¬ ((7 : Int) ≤ 0)) => ?_)
  refine go_aloadN 74 rfl d14_73 rfl rfl ?_
  refine go_iload 76 rfl d14_74 rfl ?_
  refine go_callP (host := "") 79 rfl d14_76 (Or.inl (wd hw 96 rfl)) (wd hw 97 rfl) (wd hw 98 rfl) (wd hw 9 rfl) (wd hw 10 rfl) (wd hw 99 rfl) (by decide) (Mo.exa (i := 0) rfl) (m_lb Z a0 hw h0 a1 a2 a3 a4 a5 a6 a7 [(.long q0), (.long q1), (.long q2), (.long q3)] [(.long (0 : Int64)), (.long (0 : Int64)), (.long (0 : Int64)), (.long (0 : Int64))] [(.int (0 : Int32)), (.int z101), (.int z102), (.int z103), (.int z104), (.int z105), (.int z106), (.int z107)] [(.int (0 : Int32)), (.int z201), (.int z202), (.int z203), (.int z204), (.int z205), (.int z206), (.int z207)] [(.int (0 : Int32)), (.int z301), (.int z302), (.int z303), (.int z304), (.int z305), (.int z306), (.int z307)] [(.int (0 : Int32)), (.int z401), (.int z402), (.int z403)] (7 : Int32) (4 : Int32) (0 : Int32) (by decide +kernel)) (argsL := [(.int (7 : Int32))]) (rest := []) rfl (ps := [.int]) (by decide +kernel) rfl rfl 0 rfl (by decide) (by decide) (by decide) (by decide) ?_
  rintro _ _ ⟨rfl, rfl⟩
  show Go Bff4 Z a0 h0 _ 0 0 (M4 a1 a2 a3 a4 a5 a6 a7 q0 q1 q2 q3 z101 z201 z301 z102 z202 z302 z103 z203 z303 z104 z204 z304 z105 z205 z305 z106 z206 z306 z107 z207 z307 z401 z402 z403) 79 #[.val (.ref a1), .val (.int p4), .val (.int p5), .val (.int p8), .val (.int p9), .val (.int (-1 : Int32)), .val (.int p7), .val (.int (7 : Int32)), s50, s51, s52] [(.int (0 : Int32))]
  refine go_istore #[.val (.ref a1), .val (.int p4), .val (.int p5), .val (.int p8), .val (.int p9), .val (.int (-1 : Int32)), .val (.int p7), .val (.int (7 : Int32)), .val (.int (0 : Int32)), s51, s52] 81 rfl d14_79 rfl (XS.store1 rfl h50 rfl) ?_
  refine go_bipush (64 : Int32) 83 rfl d14_81 rfl ?_
  refine go_iload 85 rfl d14_83 rfl ?_
  refine go_ishl 86 rfl d14_85 rfl ?_
  refine go_istore #[.val (.ref a1), .val (.int p4), .val (.int p5), .val (.int p8), .val (.int p9), .val (.int (-1 : Int32)), .val (.int p7), .val (.int (7 : Int32)), .val (.int (0 : Int32)), .val (.int (64 : Int32)), s52] 88 rfl d14_86 rfl (XS.store1 rfl h51 rfl) ?_
  refine go_iload 90 rfl d14_88 rfl ?_
  refine go_iload 92 rfl d14_90 rfl ?_
  refine go_ishl 93 rfl d14_92 rfl ?_
  refine go_aloadN 94 rfl d14_93 rfl rfl ?_
  refine go_get 0 0 97 rfl d14_94 rfl rfl rfl (wd hw 27 rfl) ?_
  refine go_isub 98 rfl d14_97 rfl ?_
  refine go_bipush (64 : Int32) 100 rfl d14_98 rfl ?_
  refine go_imul 101 rfl d14_100 rfl ?_
  refine go_istore #[.val (.ref a1), .val (.int p4), .val (.int p5), .val (.int p8), .val (.int p9), .val (.int (-1 : Int32)), .val (.int p7), .val (.int (7 : Int32)), .val (.int (0 : Int32)), .val (.int (64 : Int32)), .val (.int (192 : Int32))] 103 rfl d14_101 rfl (XS.store1 rfl h52 rfl) ?_
  refine go_aloadN 104 rfl d14_103 rfl rfl ?_
  refine go_get 0 2 107 rfl d14_104 rfl rfl rfl (wd hw 32 rfl) ?_
  refine go_iload 109 rfl d14_107 rfl ?_
  refine go_bipush (64 : Int32) 111 rfl d14_109 rfl ?_
  refine go_idiv 112 rfl d14_111 rfl (by decide) ?_
  refine go_laload 113 rfl d14_112 rfl (Mo.el (i := 2) rfl (by decide) rfl) ?_
  refine go_lconst (1 : Int64) 114 rfl d14_113 rfl ?_
  refine go_land 115 rfl d14_114 rfl ?_
  refine go_lconst (0 : Int64) 116 rfl d14_115 rfl ?_
  refine go_lcmp 117 rfl d14_116 rfl ?_
  refine go_if 123 120 rfl (by decide) rfl d14_117 rfl (fun (hc117 : (lcmpW ((0 : Int64) &&& (1 : Int64)) (0 : Int64)).toInt = 0) => ?_) (fun (hc117 : ¬ ((lcmpW ((0 : Int64) &&& (1 : Int64)) (0 : Int64)).toInt = 0)) => absurd hc117 (by decide))
  refine go_iload 125 rfl d14_123 rfl ?_
  refine go_aloadN 126 rfl d14_125 rfl rfl ?_
  refine go_get 0 3 129 rfl d14_126 rfl rfl rfl (wd hw 35 rfl) ?_
  refine go_iload 131 rfl d14_129 rfl ?_
  refine go_iaload 132 rfl d14_131 rfl (Mo.el (i := 3) rfl (by decide) rfl) ?_
  refine go_iadd 133 rfl d14_132 rfl ?_
  have fa1 : (p7 + z107).toInt = p7.toInt + z107.toInt := addE rfl rfl (by omega)
  refine go_iloadN 134 rfl d14_133 rfl ?_
  refine go_icmp 147 137 rfl (by decide) rfl d14_134 rfl (fun (hc134_77 : (p7 + z107).toInt < p5.toInt) => ?_) (fun (hc134_77 : ¬ ((p7 + z107).toInt < p5.toInt)) => ?_)
  · refine go_aloadN 148 rfl d14_147 rfl rfl ?_
    refine go_get 0 5 151 rfl d14_148 rfl rfl rfl (wd hw 39 rfl) ?_
    refine go_iload 153 rfl d14_151 rfl ?_
    refine go_iaload 154 rfl d14_153 rfl (Mo.el (i := 5) rfl (by decide) rfl) ?_
    refine go_iloadN 155 rfl d14_154 rfl ?_
    refine go_icmp 197 158 rfl (by decide) rfl d14_155 rfl (fun (hc155_78 : p5.toInt ≤ z307.toInt) => ?_) (fun (hc155_78 : ¬ (p5.toInt ≤ z307.toInt)) => ?_)
    · refine go_iload 199 rfl d14_197 rfl ?_
      refine go_aloadN 200 rfl d14_199 rfl rfl ?_
      refine go_get 0 0 203 rfl d14_200 rfl rfl rfl (wd hw 27 rfl) ?_
      refine go_icmp 224 206 rfl (by decide) rfl d14_203 rfl (fun (hc203 : (7 : Int) < (4 : Int)) => absurd hc203 (by decide)) (fun (hc203 : ¬ ((7 : Int) < (4 : Int))) => ?_)
      refine go_aloadN 207 rfl d14_206 rfl rfl ?_
      refine go_iload 209 rfl d14_207 rfl ?_
      refine go_aloadN 210 rfl d14_209 rfl rfl ?_
      refine go_get 0 0 213 rfl d14_210 rfl rfl rfl (wd hw 27 rfl) ?_
      refine go_isub 214 rfl d14_213 rfl ?_
      refine go_iconst (0 : Int32) 215 rfl d14_214 rfl ?_
      refine go_iloadN 216 rfl d14_215 rfl ?_
      refine go_callP (host := "") 219 rfl d14_216 (Or.inl (wd hw 76 rfl)) (wd hw 77 rfl) (wd hw 78 rfl) (wd hw 9 rfl) (wd hw 10 rfl) (wd hw 79 rfl) (by decide) (Mo.exa (i := 0) rfl) (m_scan Z a0 hw h0 P a1 a2 a3 a4 a5 a6 a7 [(.long q0), (.long q1), (.long q2), (.long q3)] [(.long (0 : Int64)), (.long (0 : Int64)), (.long (0 : Int64)), (.long (0 : Int64))] [(.int (0 : Int32)), (.int z101), (.int z102), (.int z103), (.int z104), (.int z105), (.int z106), (.int z107)] [(.int (0 : Int32)), (.int z201), (.int z202), (.int z203), (.int z204), (.int z205), (.int z206), (.int z207)] [(.int (0 : Int32)), (.int z301), (.int z302), (.int z303), (.int z304), (.int z305), (.int z306), (.int z307)] [(.int (0 : Int32)), (.int z401), (.int z402), (.int z403)] (3 : Int32) (4 : Int32) (0 : Int32) p5 q3 3 256 192 rfl rfl (by decide) e3 rfl (by decide) (by decide) h5 (by decide) (by decide)) (argsL := [(.int (3 : Int32)), (.int (0 : Int32)), (.int p5)]) (rest := []) rfl (ps := [.int, .int, .int]) (by decide +kernel) rfl rfl 0 rfl (by decide) (by decide) (by decide) (by decide) ?_
      rintro _ _ ⟨z633, rfl, rfl, hz633⟩
      show Go Bff4 Z a0 h0 _ 0 0 (M4 a1 a2 a3 a4 a5 a6 a7 q0 q1 q2 q3 z101 z201 z301 z102 z202 z302 z103 z203 z303 z104 z204 z304 z105 z205 z305 z106 z206 z306 z107 z207 z307 z401 z402 z403) 219 #[.val (.ref a1), .val (.int p4), .val (.int p5), .val (.int p8), .val (.int p9), .val (.int (-1 : Int32)), .val (.int p7), .val (.int (7 : Int32)), .val (.int (0 : Int32)), .val (.int (64 : Int32)), .val (.int (192 : Int32))] [(.int z633)]
      refine go_istore #[.val (.ref a1), .val (.int p4), .val (.int p5), .val (.int p8), .val (.int p9), .val (.int z633), .val (.int p7), .val (.int (7 : Int32)), .val (.int (0 : Int32)), .val (.int (64 : Int32)), .val (.int (192 : Int32))] 221 rfl d14_219 rfl rfl ?_
      refine go_goto 230 (by decide) rfl d14_221 ?_
      refine go_goto 63 (by decide) rfl d14_230 ?_
      refine go_iload 65 rfl d14_63 rfl ?_
      refine go_if 233 68 rfl (by decide) rfl d14_65 rfl (fun (hc65 : 0 ≤ z633.toInt) => ?_) (fun (hc65 : ¬ (0 ≤ z633.toInt)) => absurd hc65 (by have := (hI.scan s7 (by omega) h5.1 (by omega) (by omega) hz633).1; omega))
      refine go_iload 235 rfl d14_233 rfl ?_
      exact go_ireturn d14_235 rfl (Or.inl rfl) rfl rfl (by decide) (by decide) ⟨_, _, _, _, _, _, _, _, _, _, _, _, (Inv4.mk e0 e1 e2 e3 s4 s5 s6 s7 (fun _ => ⟨s1, s2, s3⟩) (fun _ => s2) (fun _ => s3)), _, (hI.scan s7 (by omega) h5.1 (by omega) (by omega) hz633).2, rfl, rfl⟩
    · refine go_aloadN 159 rfl d14_158 rfl rfl ?_
      refine go_get 0 3 162 rfl d14_159 rfl rfl rfl (wd hw 35 rfl) ?_
      refine go_iload 164 rfl d14_162 rfl ?_
      refine go_iaload 165 rfl d14_164 rfl (Mo.el (i := 3) rfl (by decide) rfl) ?_
      refine go_iload 167 rfl d14_165 rfl ?_
      refine go_icmp 178 170 rfl (by decide) rfl d14_167 rfl (fun (hc167_79 : z107.toInt ≠ (64 : Int)) => ?_) (fun (hc167_79 : ¬ (z107.toInt ≠ (64 : Int))) => ?_)
      · refine go_aloadN 179 rfl d14_178 rfl rfl ?_
        refine go_get 0 4 182 rfl d14_179 rfl rfl rfl (wd hw 37 rfl) ?_
        refine go_iload 184 rfl d14_182 rfl ?_
        refine go_iaload 185 rfl d14_184 rfl (Mo.el (i := 4) rfl (by decide) rfl) ?_
        refine go_istore #[.val (.ref a1), .val (.int p4), .val (.int p5), .val (.int p8), .val (.int p9), .val (.int (-1 : Int32)), .val (.int z207), .val (.int (7 : Int32)), .val (.int (0 : Int32)), .val (.int (64 : Int32)), .val (.int (192 : Int32))] 187 rfl d14_185 rfl rfl ?_
        refine go_iload 189 rfl d14_187 rfl ?_
        refine go_callS 192 rfl d14_189 (wd hw 85 rfl) (wd hw 86 rfl) (wd hw 10 rfl) (wd hw 87 rfl) (by decide) (Met.frame (M4 a1 a2 a3 a4 a5 a6 a7 q0 q1 q2 q3 z101 z201 z301 z102 z202 z302 z103 z203 z303 z104 z204 z304 z105 z205 z305 z106 z206 z306 z107 z207 z307 z401 z402 z403) (mt81 Z a0 hw h0)) (argsL := [(.int (7 : Int32))]) (rest := []) rfl (ps := [.int]) (by decide +kernel) rfl rfl 0 rfl (by decide) (by decide) (by decide) (by decide) ?_
        rintro _ _ ⟨_, ⟨rfl, rfl⟩, rfl⟩
        show Go Bff4 Z a0 h0 _ 0 0 (M4 a1 a2 a3 a4 a5 a6 a7 q0 q1 q2 q3 z101 z201 z301 z102 z202 z302 z103 z203 z303 z104 z204 z304 z105 z205 z305 z106 z206 z306 z107 z207 z307 z401 z402 z403) 192 #[.val (.ref a1), .val (.int p4), .val (.int p5), .val (.int p8), .val (.int p9), .val (.int (-1 : Int32)), .val (.int z207), .val (.int (7 : Int32)), .val (.int (0 : Int32)), .val (.int (64 : Int32)), .val (.int (192 : Int32))] [(.int (0 : Int32))]
        refine go_istore #[.val (.ref a1), .val (.int p4), .val (.int p5), .val (.int p8), .val (.int p9), .val (.int (-1 : Int32)), .val (.int z207), .val (.int (0 : Int32)), .val (.int (0 : Int32)), .val (.int (64 : Int32)), .val (.int (192 : Int32))] 194 rfl d14_192 rfl rfl ?_
        refine go_goto 230 (by decide) rfl d14_194 ?_
        refine go_goto 63 (by decide) rfl d14_230 ?_
        exact lp4_0 Z a0 hw h0 P a1 a2 a3 a4 a5 a6 a7 q0 q1 q2 q3 z101 z201 z301 z102 z202 z302 z103 z203 z303 z104 z204 z304 z105 z205 z305 z106 z206 z306 z107 z207 z307 z401 z402 z403 p4 p5 z207 p8 p9 (.val (.int (0 : Int32))) (Or.inr ⟨_, rfl, rfl⟩) (.val (.int (64 : Int32))) (Or.inr ⟨_, rfl, rfl⟩) (.val (.int (192 : Int32))) (Or.inr ⟨_, rfl, rfl⟩) h5 hF0 e0 e1 e2 e3 s1 s2 s3 s4 s5 s6 s7 hC (hI.skip s7 (by omega) (by omega) (by omega) (by omega))
      · refine go_iload 172 rfl d14_170 rfl ?_
        refine go_iload 174 rfl d14_172 rfl ?_
        refine go_iadd 175 rfl d14_174 rfl ?_
        have fa2 : (p7 + (64 : Int32)).toInt = p7.toInt + (64 : Int) := addE rfl rfl (by omega)
        refine go_goto 185 (by decide) rfl d14_175 ?_
        refine go_istore #[.val (.ref a1), .val (.int p4), .val (.int p5), .val (.int p8), .val (.int p9), .val (.int (-1 : Int32)), .val (.int (p7 + (64 : Int32))), .val (.int (7 : Int32)), .val (.int (0 : Int32)), .val (.int (64 : Int32)), .val (.int (192 : Int32))] 187 rfl d14_185 rfl rfl ?_
        refine go_iload 189 rfl d14_187 rfl ?_
        refine go_callS 192 rfl d14_189 (wd hw 85 rfl) (wd hw 86 rfl) (wd hw 10 rfl) (wd hw 87 rfl) (by decide) (Met.frame (M4 a1 a2 a3 a4 a5 a6 a7 q0 q1 q2 q3 z101 z201 z301 z102 z202 z302 z103 z203 z303 z104 z204 z304 z105 z205 z305 z106 z206 z306 z107 z207 z307 z401 z402 z403) (mt81 Z a0 hw h0)) (argsL := [(.int (7 : Int32))]) (rest := []) rfl (ps := [.int]) (by decide +kernel) rfl rfl 0 rfl (by decide) (by decide) (by decide) (by decide) ?_
        rintro _ _ ⟨_, ⟨rfl, rfl⟩, rfl⟩
        show Go Bff4 Z a0 h0 _ 0 0 (M4 a1 a2 a3 a4 a5 a6 a7 q0 q1 q2 q3 z101 z201 z301 z102 z202 z302 z103 z203 z303 z104 z204 z304 z105 z205 z305 z106 z206 z306 z107 z207 z307 z401 z402 z403) 192 #[.val (.ref a1), .val (.int p4), .val (.int p5), .val (.int p8), .val (.int p9), .val (.int (-1 : Int32)), .val (.int (p7 + (64 : Int32))), .val (.int (7 : Int32)), .val (.int (0 : Int32)), .val (.int (64 : Int32)), .val (.int (192 : Int32))] [(.int (0 : Int32))]
        refine go_istore #[.val (.ref a1), .val (.int p4), .val (.int p5), .val (.int p8), .val (.int p9), .val (.int (-1 : Int32)), .val (.int (p7 + (64 : Int32))), .val (.int (0 : Int32)), .val (.int (0 : Int32)), .val (.int (64 : Int32)), .val (.int (192 : Int32))] 194 rfl d14_192 rfl rfl ?_
        refine go_goto 230 (by decide) rfl d14_194 ?_
        refine go_goto 63 (by decide) rfl d14_230 ?_
        exact lp4_0 Z a0 hw h0 P a1 a2 a3 a4 a5 a6 a7 q0 q1 q2 q3 z101 z201 z301 z102 z202 z302 z103 z203 z303 z104 z204 z304 z105 z205 z305 z106 z206 z306 z107 z207 z307 z401 z402 z403 p4 p5 (p7 + (64 : Int32)) p8 p9 (.val (.int (0 : Int32))) (Or.inr ⟨_, rfl, rfl⟩) (.val (.int (64 : Int32))) (Or.inr ⟨_, rfl, rfl⟩) (.val (.int (192 : Int32))) (Or.inr ⟨_, rfl, rfl⟩) h5 hF0 e0 e1 e2 e3 s1 s2 s3 s4 s5 s6 s7 hC (hI.skip s7 (by omega) (by omega) (by omega) (by omega))
  · refine go_iload 139 rfl d14_137 rfl ?_
    refine go_iload 141 rfl d14_139 rfl ?_
    refine go_isub 142 rfl d14_141 rfl ?_
    have fa3 : ((192 : Int32) - p7).toInt = (192 : Int) - p7.toInt := subE rfl rfl (by omega)
    refine go_istore #[.val (.ref a1), .val (.int p4), .val (.int p5), .val (.int p8), .val (.int p9), .val (.int ((192 : Int32) - p7)), .val (.int p7), .val (.int (7 : Int32)), .val (.int (0 : Int32)), .val (.int (64 : Int32)), .val (.int (192 : Int32))] 144 rfl d14_142 rfl rfl ?_
    refine go_goto 230 (by decide) rfl d14_144 ?_
    refine go_goto 63 (by decide) rfl d14_230 ?_
    refine go_iload 65 rfl d14_63 rfl ?_
    refine go_if 233 68 rfl (by decide) rfl d14_65 rfl (fun (hc65 : 0 ≤ ((192 : Int32) - p7).toInt) => ?_) (fun (hc65 : ¬ (0 ≤ ((192 : Int32) - p7).toInt)) => absurd hc65 (by omega))
    refine go_iload 235 rfl d14_233 rfl ?_
    exact go_ireturn d14_235 rfl (Or.inl rfl) rfl rfl (by decide) (by decide) ⟨_, _, _, _, _, _, _, _, _, _, _, _, (Inv4.mk e0 e1 e2 e3 s4 s5 s6 s7 (fun _ => ⟨s1, s2, s3⟩) (fun _ => s2) (fun _ => s3)), _, (by rw [show ((192 : Int32) - p7).toInt = 192 - p7.toInt from by omega]; exact hI.found s7 h5.1 (by omega)), rfl, rfl⟩
theorem lp4_6 (Z : State) (a0 : Array Value) (hw : ∀ d ∈ tables_1, d.before a0 Z = true) (h0 : Heap) (P : Fr1) (a1 a2 a3 a4 a5 a6 a7 : Addr) (q0 q1 q2 q3 : Int64) (z101 z201 z301 z102 z202 z302 z103 z203 z303 z104 z204 z304 z105 z205 z305 z106 z206 z306 z107 z207 z307 z401 z402 z403 : Int32) (p4 p5 p7 p8 p9 : Int32) (s50 : Slot) (h50 : s50 = .unset ∨ ∃ w, s50 = .val w ∧ w.category = 1) (s51 : Slot) (h51 : s51 = .unset ∨ ∃ w, s51 = .val w ∧ w.category = 1) (s52 : Slot) (h52 : s52 = .unset ∨ ∃ w, s52 = .val w ∧ w.category = 1) (h5 : 0 < p5.toInt ∧ p5.toInt ≤ 256) (hF0 : 0 ≤ p4.toInt) (e0 : Fre P 0 q0) (e1 : Fre P 1 q1) (e2 : Fre P 2 q2) (e3 : Fre P 3 q3) (s1 : Sm P 0 256 z101.toInt z201.toInt z301.toInt) (s2 : Sm P 0 128 z102.toInt z202.toInt z302.toInt) (s3 : Sm P 128 256 z103.toInt z203.toInt z303.toInt) (s4 : Sm P 0 64 z104.toInt z204.toInt z304.toInt) (s5 : Sm P 64 128 z105.toInt z205.toInt z305.toInt) (s6 : Sm P 128 192 z106.toInt z206.toInt z306.toInt) (s7 : Sm P 192 256 z107.toInt z207.toInt z307.toInt) (hC : ∀ x, 256 ≤ x → ¬ P x) (hI : LI P p4.toInt p5.toInt 128 p7.toInt) :
    Go Bff4 Z a0 h0 (fun v ds => ∃ y10 y11 y12 y13 y20 y21 y22 y23 y30 y31 y32 y33 : Int32, Inv4 P q0 q1 q2 q3 y10 y11 y12 y20 y21 y22 y30 y31 y32 z104 z204 z304 z105 z205 z305 z106 z206 z306 z107 z207 z307 y13 y23 y33 ∧ ∃ z : Int32, Ans P p4.toInt p5.toInt z.toInt ∧ Ret (some (.int z)) (M4 a1 a2 a3 a4 a5 a6 a7 q0 q1 q2 q3 y10 y11 y12 y20 y21 y22 y30 y31 y32 z104 z204 z304 z105 z205 z305 z106 z206 z306 z107 z207 z307 y13 y23 y33) v ds) 0 0 (M4 a1 a2 a3 a4 a5 a6 a7 q0 q1 q2 q3 z101 z201 z301 z102 z202 z302 z103 z203 z303 z104 z204 z304 z105 z205 z305 z106 z206 z306 z107 z207 z307 z401 z402 z403) 63 #[.val (.ref a1), .val (.int p4), .val (.int p5), .val (.int p8), .val (.int p9), .val (.int (-1 : Int32)), .val (.int p7), .val (.int (6 : Int32)), s50, s51, s52] [] := by
  show Go Bff4 Z a0 h0 _ 0 0 (M4 a1 a2 a3 a4 a5 a6 a7 q0 q1 q2 q3 z101 z201 z301 z102 z202 z302 z103 z203 z303 z104 z204 z304 z105 z205 z305 z106 z206 z306 z107 z207 z307 z401 z402 z403) 63 #[.val (.ref a1), .val (.int p4), .val (.int p5), .val (.int p8), .val (.int p9), .val (.int (-1 : Int32)), .val (.int p7), .val (.int (6 : Int32)), s50, s51, s52] []
  have g0 := hI.r0; have g1 := hI.r1
  have g2 := s6.f0; have g3 := s6.f1; have g4 := s6.l0; have g5 := s6.l1
  refine go_iload 65 rfl d14_63 rfl ?_
  refine go_if 233 68 rfl (by decide) rfl d14_65 rfl (fun (hc65 : 0 ≤ (-1 : Int)) => absurd hc65 (by decide)) (fun (hc65 : ¬ (0 ≤ (-1 : Int))) => ?_)
  refine go_iload 70 rfl d14_68 rfl ?_
  refine go_if 233 73 rfl (by decide) rfl d14_70 rfl (fun (hc70 : (6 : Int) ≤ 0) => absurd hc70 (by decide)) (fun (hc70 : ¬ ((6 : Int) ≤ 0)) => ?_)
  refine go_aloadN 74 rfl d14_73 rfl rfl ?_
  refine go_iload 76 rfl d14_74 rfl ?_
  refine go_callP (host := "") 79 rfl d14_76 (Or.inl (wd hw 96 rfl)) (wd hw 97 rfl) (wd hw 98 rfl) (wd hw 9 rfl) (wd hw 10 rfl) (wd hw 99 rfl) (by decide) (Mo.exa (i := 0) rfl) (m_lb Z a0 hw h0 a1 a2 a3 a4 a5 a6 a7 [(.long q0), (.long q1), (.long q2), (.long q3)] [(.long (0 : Int64)), (.long (0 : Int64)), (.long (0 : Int64)), (.long (0 : Int64))] [(.int (0 : Int32)), (.int z101), (.int z102), (.int z103), (.int z104), (.int z105), (.int z106), (.int z107)] [(.int (0 : Int32)), (.int z201), (.int z202), (.int z203), (.int z204), (.int z205), (.int z206), (.int z207)] [(.int (0 : Int32)), (.int z301), (.int z302), (.int z303), (.int z304), (.int z305), (.int z306), (.int z307)] [(.int (0 : Int32)), (.int z401), (.int z402), (.int z403)] (6 : Int32) (4 : Int32) (0 : Int32) (by decide +kernel)) (argsL := [(.int (6 : Int32))]) (rest := []) rfl (ps := [.int]) (by decide +kernel) rfl rfl 0 rfl (by decide) (by decide) (by decide) (by decide) ?_
  rintro _ _ ⟨rfl, rfl⟩
  show Go Bff4 Z a0 h0 _ 0 0 (M4 a1 a2 a3 a4 a5 a6 a7 q0 q1 q2 q3 z101 z201 z301 z102 z202 z302 z103 z203 z303 z104 z204 z304 z105 z205 z305 z106 z206 z306 z107 z207 z307 z401 z402 z403) 79 #[.val (.ref a1), .val (.int p4), .val (.int p5), .val (.int p8), .val (.int p9), .val (.int (-1 : Int32)), .val (.int p7), .val (.int (6 : Int32)), s50, s51, s52] [(.int (0 : Int32))]
  refine go_istore #[.val (.ref a1), .val (.int p4), .val (.int p5), .val (.int p8), .val (.int p9), .val (.int (-1 : Int32)), .val (.int p7), .val (.int (6 : Int32)), .val (.int (0 : Int32)), s51, s52] 81 rfl d14_79 rfl (XS.store1 rfl h50 rfl) ?_
  refine go_bipush (64 : Int32) 83 rfl d14_81 rfl ?_
  refine go_iload 85 rfl d14_83 rfl ?_
  refine go_ishl 86 rfl d14_85 rfl ?_
  refine go_istore #[.val (.ref a1), .val (.int p4), .val (.int p5), .val (.int p8), .val (.int p9), .val (.int (-1 : Int32)), .val (.int p7), .val (.int (6 : Int32)), .val (.int (0 : Int32)), .val (.int (64 : Int32)), s52] 88 rfl d14_86 rfl (XS.store1 rfl h51 rfl) ?_
  refine go_iload 90 rfl d14_88 rfl ?_
  refine go_iload 92 rfl d14_90 rfl ?_
  refine go_ishl 93 rfl d14_92 rfl ?_
  refine go_aloadN 94 rfl d14_93 rfl rfl ?_
  refine go_get 0 0 97 rfl d14_94 rfl rfl rfl (wd hw 27 rfl) ?_
  refine go_isub 98 rfl d14_97 rfl ?_
  refine go_bipush (64 : Int32) 100 rfl d14_98 rfl ?_
  refine go_imul 101 rfl d14_100 rfl ?_
  refine go_istore #[.val (.ref a1), .val (.int p4), .val (.int p5), .val (.int p8), .val (.int p9), .val (.int (-1 : Int32)), .val (.int p7), .val (.int (6 : Int32)), .val (.int (0 : Int32)), .val (.int (64 : Int32)), .val (.int (128 : Int32))] 103 rfl d14_101 rfl (XS.store1 rfl h52 rfl) ?_
  refine go_aloadN 104 rfl d14_103 rfl rfl ?_
  refine go_get 0 2 107 rfl d14_104 rfl rfl rfl (wd hw 32 rfl) ?_
  refine go_iload 109 rfl d14_107 rfl ?_
  refine go_bipush (64 : Int32) 111 rfl d14_109 rfl ?_
  refine go_idiv 112 rfl d14_111 rfl (by decide) ?_
  refine go_laload 113 rfl d14_112 rfl (Mo.el (i := 2) rfl (by decide) rfl) ?_
  refine go_lconst (1 : Int64) 114 rfl d14_113 rfl ?_
  refine go_land 115 rfl d14_114 rfl ?_
  refine go_lconst (0 : Int64) 116 rfl d14_115 rfl ?_
  refine go_lcmp 117 rfl d14_116 rfl ?_
  refine go_if 123 120 rfl (by decide) rfl d14_117 rfl (fun (hc117 : (lcmpW ((0 : Int64) &&& (1 : Int64)) (0 : Int64)).toInt = 0) => ?_) (fun (hc117 : ¬ ((lcmpW ((0 : Int64) &&& (1 : Int64)) (0 : Int64)).toInt = 0)) => absurd hc117 (by decide))
  refine go_iload 125 rfl d14_123 rfl ?_
  refine go_aloadN 126 rfl d14_125 rfl rfl ?_
  refine go_get 0 3 129 rfl d14_126 rfl rfl rfl (wd hw 35 rfl) ?_
  refine go_iload 131 rfl d14_129 rfl ?_
  refine go_iaload 132 rfl d14_131 rfl (Mo.el (i := 3) rfl (by decide) rfl) ?_
  refine go_iadd 133 rfl d14_132 rfl ?_
  have fa4 : (p7 + z106).toInt = p7.toInt + z106.toInt := addE rfl rfl (by omega)
  refine go_iloadN 134 rfl d14_133 rfl ?_
  refine go_icmp 147 137 rfl (by decide) rfl d14_134 rfl (fun (hc134_81 : (p7 + z106).toInt < p5.toInt) => ?_) (fun (hc134_81 : ¬ ((p7 + z106).toInt < p5.toInt)) => ?_)
  · refine go_aloadN 148 rfl d14_147 rfl rfl ?_
    refine go_get 0 5 151 rfl d14_148 rfl rfl rfl (wd hw 39 rfl) ?_
    refine go_iload 153 rfl d14_151 rfl ?_
    refine go_iaload 154 rfl d14_153 rfl (Mo.el (i := 5) rfl (by decide) rfl) ?_
    refine go_iloadN 155 rfl d14_154 rfl ?_
    refine go_icmp 197 158 rfl (by decide) rfl d14_155 rfl (fun (hc155_82 : p5.toInt ≤ z306.toInt) => ?_) (fun (hc155_82 : ¬ (p5.toInt ≤ z306.toInt)) => ?_)
    · refine go_iload 199 rfl d14_197 rfl ?_
      refine go_aloadN 200 rfl d14_199 rfl rfl ?_
      refine go_get 0 0 203 rfl d14_200 rfl rfl rfl (wd hw 27 rfl) ?_
      refine go_icmp 224 206 rfl (by decide) rfl d14_203 rfl (fun (hc203 : (6 : Int) < (4 : Int)) => absurd hc203 (by decide)) (fun (hc203 : ¬ ((6 : Int) < (4 : Int))) => ?_)
      refine go_aloadN 207 rfl d14_206 rfl rfl ?_
      refine go_iload 209 rfl d14_207 rfl ?_
      refine go_aloadN 210 rfl d14_209 rfl rfl ?_
      refine go_get 0 0 213 rfl d14_210 rfl rfl rfl (wd hw 27 rfl) ?_
      refine go_isub 214 rfl d14_213 rfl ?_
      refine go_iconst (0 : Int32) 215 rfl d14_214 rfl ?_
      refine go_iloadN 216 rfl d14_215 rfl ?_
      refine go_callP (host := "") 219 rfl d14_216 (Or.inl (wd hw 76 rfl)) (wd hw 77 rfl) (wd hw 78 rfl) (wd hw 9 rfl) (wd hw 10 rfl) (wd hw 79 rfl) (by decide) (Mo.exa (i := 0) rfl) (m_scan Z a0 hw h0 P a1 a2 a3 a4 a5 a6 a7 [(.long q0), (.long q1), (.long q2), (.long q3)] [(.long (0 : Int64)), (.long (0 : Int64)), (.long (0 : Int64)), (.long (0 : Int64))] [(.int (0 : Int32)), (.int z101), (.int z102), (.int z103), (.int z104), (.int z105), (.int z106), (.int z107)] [(.int (0 : Int32)), (.int z201), (.int z202), (.int z203), (.int z204), (.int z205), (.int z206), (.int z207)] [(.int (0 : Int32)), (.int z301), (.int z302), (.int z303), (.int z304), (.int z305), (.int z306), (.int z307)] [(.int (0 : Int32)), (.int z401), (.int z402), (.int z403)] (2 : Int32) (4 : Int32) (0 : Int32) p5 q2 2 192 128 rfl rfl (by decide) e2 rfl (by decide) (by decide) h5 (by decide) (by decide)) (argsL := [(.int (2 : Int32)), (.int (0 : Int32)), (.int p5)]) (rest := []) rfl (ps := [.int, .int, .int]) (by decide +kernel) rfl rfl 0 rfl (by decide) (by decide) (by decide) (by decide) ?_
      rintro _ _ ⟨z634, rfl, rfl, hz634⟩
      show Go Bff4 Z a0 h0 _ 0 0 (M4 a1 a2 a3 a4 a5 a6 a7 q0 q1 q2 q3 z101 z201 z301 z102 z202 z302 z103 z203 z303 z104 z204 z304 z105 z205 z305 z106 z206 z306 z107 z207 z307 z401 z402 z403) 219 #[.val (.ref a1), .val (.int p4), .val (.int p5), .val (.int p8), .val (.int p9), .val (.int (-1 : Int32)), .val (.int p7), .val (.int (6 : Int32)), .val (.int (0 : Int32)), .val (.int (64 : Int32)), .val (.int (128 : Int32))] [(.int z634)]
      refine go_istore #[.val (.ref a1), .val (.int p4), .val (.int p5), .val (.int p8), .val (.int p9), .val (.int z634), .val (.int p7), .val (.int (6 : Int32)), .val (.int (0 : Int32)), .val (.int (64 : Int32)), .val (.int (128 : Int32))] 221 rfl d14_219 rfl rfl ?_
      refine go_goto 230 (by decide) rfl d14_221 ?_
      refine go_goto 63 (by decide) rfl d14_230 ?_
      refine go_iload 65 rfl d14_63 rfl ?_
      refine go_if 233 68 rfl (by decide) rfl d14_65 rfl (fun (hc65 : 0 ≤ z634.toInt) => ?_) (fun (hc65 : ¬ (0 ≤ z634.toInt)) => absurd hc65 (by have := (hI.scan s6 (by omega) h5.1 (by omega) (by omega) hz634).1; omega))
      refine go_iload 235 rfl d14_233 rfl ?_
      exact go_ireturn d14_235 rfl (Or.inl rfl) rfl rfl (by decide) (by decide) ⟨_, _, _, _, _, _, _, _, _, _, _, _, (Inv4.mk e0 e1 e2 e3 s4 s5 s6 s7 (fun _ => ⟨s1, s2, s3⟩) (fun _ => s2) (fun _ => s3)), _, (hI.scan s6 (by omega) h5.1 (by omega) (by omega) hz634).2, rfl, rfl⟩
    · refine go_aloadN 159 rfl d14_158 rfl rfl ?_
      refine go_get 0 3 162 rfl d14_159 rfl rfl rfl (wd hw 35 rfl) ?_
      refine go_iload 164 rfl d14_162 rfl ?_
      refine go_iaload 165 rfl d14_164 rfl (Mo.el (i := 3) rfl (by decide) rfl) ?_
      refine go_iload 167 rfl d14_165 rfl ?_
      refine go_icmp 178 170 rfl (by decide) rfl d14_167 rfl (fun (hc167_83 : z106.toInt ≠ (64 : Int)) => ?_) (fun (hc167_83 : ¬ (z106.toInt ≠ (64 : Int))) => ?_)
      · refine go_aloadN 179 rfl d14_178 rfl rfl ?_
        refine go_get 0 4 182 rfl d14_179 rfl rfl rfl (wd hw 37 rfl) ?_
        refine go_iload 184 rfl d14_182 rfl ?_
        refine go_iaload 185 rfl d14_184 rfl (Mo.el (i := 4) rfl (by decide) rfl) ?_
        refine go_istore #[.val (.ref a1), .val (.int p4), .val (.int p5), .val (.int p8), .val (.int p9), .val (.int (-1 : Int32)), .val (.int z206), .val (.int (6 : Int32)), .val (.int (0 : Int32)), .val (.int (64 : Int32)), .val (.int (128 : Int32))] 187 rfl d14_185 rfl rfl ?_
        refine go_iload 189 rfl d14_187 rfl ?_
        refine go_callS 192 rfl d14_189 (wd hw 85 rfl) (wd hw 86 rfl) (wd hw 10 rfl) (wd hw 87 rfl) (by decide) (Met.frame (M4 a1 a2 a3 a4 a5 a6 a7 q0 q1 q2 q3 z101 z201 z301 z102 z202 z302 z103 z203 z303 z104 z204 z304 z105 z205 z305 z106 z206 z306 z107 z207 z307 z401 z402 z403) (mt85 Z a0 hw h0)) (argsL := [(.int (6 : Int32))]) (rest := []) rfl (ps := [.int]) (by decide +kernel) rfl rfl 0 rfl (by decide) (by decide) (by decide) (by decide) ?_
        rintro _ _ ⟨_, ⟨rfl, rfl⟩, rfl⟩
        show Go Bff4 Z a0 h0 _ 0 0 (M4 a1 a2 a3 a4 a5 a6 a7 q0 q1 q2 q3 z101 z201 z301 z102 z202 z302 z103 z203 z303 z104 z204 z304 z105 z205 z305 z106 z206 z306 z107 z207 z307 z401 z402 z403) 192 #[.val (.ref a1), .val (.int p4), .val (.int p5), .val (.int p8), .val (.int p9), .val (.int (-1 : Int32)), .val (.int z206), .val (.int (6 : Int32)), .val (.int (0 : Int32)), .val (.int (64 : Int32)), .val (.int (128 : Int32))] [(.int (7 : Int32))]
        refine go_istore #[.val (.ref a1), .val (.int p4), .val (.int p5), .val (.int p8), .val (.int p9), .val (.int (-1 : Int32)), .val (.int z206), .val (.int (7 : Int32)), .val (.int (0 : Int32)), .val (.int (64 : Int32)), .val (.int (128 : Int32))] 194 rfl d14_192 rfl rfl ?_
        refine go_goto 230 (by decide) rfl d14_194 ?_
        refine go_goto 63 (by decide) rfl d14_230 ?_
        exact lp4_7 Z a0 hw h0 P a1 a2 a3 a4 a5 a6 a7 q0 q1 q2 q3 z101 z201 z301 z102 z202 z302 z103 z203 z303 z104 z204 z304 z105 z205 z305 z106 z206 z306 z107 z207 z307 z401 z402 z403 p4 p5 z206 p8 p9 (.val (.int (0 : Int32))) (Or.inr ⟨_, rfl, rfl⟩) (.val (.int (64 : Int32))) (Or.inr ⟨_, rfl, rfl⟩) (.val (.int (128 : Int32))) (Or.inr ⟨_, rfl, rfl⟩) h5 hF0 e0 e1 e2 e3 s1 s2 s3 s4 s5 s6 s7 hC (hI.skip s6 (by omega) (by omega) (by omega) (by omega))
      · refine go_iload 172 rfl d14_170 rfl ?_
        refine go_iload 174 rfl d14_172 rfl ?_
        refine go_iadd 175 rfl d14_174 rfl ?_
        have fa5 : (p7 + (64 : Int32)).toInt = p7.toInt + (64 : Int) := addE rfl rfl (by omega)
        refine go_goto 185 (by decide) rfl d14_175 ?_
        refine go_istore #[.val (.ref a1), .val (.int p4), .val (.int p5), .val (.int p8), .val (.int p9), .val (.int (-1 : Int32)), .val (.int (p7 + (64 : Int32))), .val (.int (6 : Int32)), .val (.int (0 : Int32)), .val (.int (64 : Int32)), .val (.int (128 : Int32))] 187 rfl d14_185 rfl rfl ?_
        refine go_iload 189 rfl d14_187 rfl ?_
        refine go_callS 192 rfl d14_189 (wd hw 85 rfl) (wd hw 86 rfl) (wd hw 10 rfl) (wd hw 87 rfl) (by decide) (Met.frame (M4 a1 a2 a3 a4 a5 a6 a7 q0 q1 q2 q3 z101 z201 z301 z102 z202 z302 z103 z203 z303 z104 z204 z304 z105 z205 z305 z106 z206 z306 z107 z207 z307 z401 z402 z403) (mt85 Z a0 hw h0)) (argsL := [(.int (6 : Int32))]) (rest := []) rfl (ps := [.int]) (by decide +kernel) rfl rfl 0 rfl (by decide) (by decide) (by decide) (by decide) ?_
        rintro _ _ ⟨_, ⟨rfl, rfl⟩, rfl⟩
        show Go Bff4 Z a0 h0 _ 0 0 (M4 a1 a2 a3 a4 a5 a6 a7 q0 q1 q2 q3 z101 z201 z301 z102 z202 z302 z103 z203 z303 z104 z204 z304 z105 z205 z305 z106 z206 z306 z107 z207 z307 z401 z402 z403) 192 #[.val (.ref a1), .val (.int p4), .val (.int p5), .val (.int p8), .val (.int p9), .val (.int (-1 : Int32)), .val (.int (p7 + (64 : Int32))), .val (.int (6 : Int32)), .val (.int (0 : Int32)), .val (.int (64 : Int32)), .val (.int (128 : Int32))] [(.int (7 : Int32))]
        refine go_istore #[.val (.ref a1), .val (.int p4), .val (.int p5), .val (.int p8), .val (.int p9), .val (.int (-1 : Int32)), .val (.int (p7 + (64 : Int32))), .val (.int (7 : Int32)), .val (.int (0 : Int32)), .val (.int (64 : Int32)), .val (.int (128 : Int32))] 194 rfl d14_192 rfl rfl ?_
        refine go_goto 230 (by decide) rfl d14_194 ?_
        refine go_goto 63 (by decide) rfl d14_230 ?_
        exact lp4_7 Z a0 hw h0 P a1 a2 a3 a4 a5 a6 a7 q0 q1 q2 q3 z101 z201 z301 z102 z202 z302 z103 z203 z303 z104 z204 z304 z105 z205 z305 z106 z206 z306 z107 z207 z307 z401 z402 z403 p4 p5 (p7 + (64 : Int32)) p8 p9 (.val (.int (0 : Int32))) (Or.inr ⟨_, rfl, rfl⟩) (.val (.int (64 : Int32))) (Or.inr ⟨_, rfl, rfl⟩) (.val (.int (128 : Int32))) (Or.inr ⟨_, rfl, rfl⟩) h5 hF0 e0 e1 e2 e3 s1 s2 s3 s4 s5 s6 s7 hC (hI.skip s6 (by omega) (by omega) (by omega) (by omega))
  · refine go_iload 139 rfl d14_137 rfl ?_
    refine go_iload 141 rfl d14_139 rfl ?_
    refine go_isub 142 rfl d14_141 rfl ?_
    have fa6 : ((128 : Int32) - p7).toInt = (128 : Int) - p7.toInt := subE rfl rfl (by omega)
    refine go_istore #[.val (.ref a1), .val (.int p4), .val (.int p5), .val (.int p8), .val (.int p9), .val (.int ((128 : Int32) - p7)), .val (.int p7), .val (.int (6 : Int32)), .val (.int (0 : Int32)), .val (.int (64 : Int32)), .val (.int (128 : Int32))] 144 rfl d14_142 rfl rfl ?_
    refine go_goto 230 (by decide) rfl d14_144 ?_
    refine go_goto 63 (by decide) rfl d14_230 ?_
    refine go_iload 65 rfl d14_63 rfl ?_
    refine go_if 233 68 rfl (by decide) rfl d14_65 rfl (fun (hc65 : 0 ≤ ((128 : Int32) - p7).toInt) => ?_) (fun (hc65 : ¬ (0 ≤ ((128 : Int32) - p7).toInt)) => absurd hc65 (by omega))
    refine go_iload 235 rfl d14_233 rfl ?_
    exact go_ireturn d14_235 rfl (Or.inl rfl) rfl rfl (by decide) (by decide) ⟨_, _, _, _, _, _, _, _, _, _, _, _, (Inv4.mk e0 e1 e2 e3 s4 s5 s6 s7 (fun _ => ⟨s1, s2, s3⟩) (fun _ => s2) (fun _ => s3)), _, (by rw [show ((128 : Int32) - p7).toInt = 128 - p7.toInt from by omega]; exact hI.found s6 h5.1 (by omega)), rfl, rfl⟩
theorem lp4_3 (Z : State) (a0 : Array Value) (hw : ∀ d ∈ tables_1, d.before a0 Z = true) (h0 : Heap) (P : Fr1) (a1 a2 a3 a4 a5 a6 a7 : Addr) (q0 q1 q2 q3 : Int64) (z101 z201 z301 z102 z202 z302 z103 z203 z303 z104 z204 z304 z105 z205 z305 z106 z206 z306 z107 z207 z307 z401 z402 z403 : Int32) (p4 p5 p7 p8 p9 : Int32) (s50 : Slot) (h50 : s50 = .unset ∨ ∃ w, s50 = .val w ∧ w.category = 1) (s51 : Slot) (h51 : s51 = .unset ∨ ∃ w, s51 = .val w ∧ w.category = 1) (s52 : Slot) (h52 : s52 = .unset ∨ ∃ w, s52 = .val w ∧ w.category = 1) (h5 : 0 < p5.toInt ∧ p5.toInt ≤ 256) (hF0 : 0 ≤ p4.toInt) (e0 : Fre P 0 q0) (e1 : Fre P 1 q1) (e2 : Fre P 2 q2) (e3 : Fre P 3 q3) (s1 : Sm P 0 256 z101.toInt z201.toInt z301.toInt) (s2 : Sm P 0 128 z102.toInt z202.toInt z302.toInt) (s3 : Sm P 128 256 z103.toInt z203.toInt z303.toInt) (s4 : Sm P 0 64 z104.toInt z204.toInt z304.toInt) (s5 : Sm P 64 128 z105.toInt z205.toInt z305.toInt) (s6 : Sm P 128 192 z106.toInt z206.toInt z306.toInt) (s7 : Sm P 192 256 z107.toInt z207.toInt z307.toInt) (hC : ∀ x, 256 ≤ x → ¬ P x) (hI : LI P p4.toInt p5.toInt 128 p7.toInt) :
    Go Bff4 Z a0 h0 (fun v ds => ∃ y10 y11 y12 y13 y20 y21 y22 y23 y30 y31 y32 y33 : Int32, Inv4 P q0 q1 q2 q3 y10 y11 y12 y20 y21 y22 y30 y31 y32 z104 z204 z304 z105 z205 z305 z106 z206 z306 z107 z207 z307 y13 y23 y33 ∧ ∃ z : Int32, Ans P p4.toInt p5.toInt z.toInt ∧ Ret (some (.int z)) (M4 a1 a2 a3 a4 a5 a6 a7 q0 q1 q2 q3 y10 y11 y12 y20 y21 y22 y30 y31 y32 z104 z204 z304 z105 z205 z305 z106 z206 z306 z107 z207 z307 y13 y23 y33) v ds) 0 0 (M4 a1 a2 a3 a4 a5 a6 a7 q0 q1 q2 q3 z101 z201 z301 z102 z202 z302 z103 z203 z303 z104 z204 z304 z105 z205 z305 z106 z206 z306 z107 z207 z307 z401 z402 z403) 63 #[.val (.ref a1), .val (.int p4), .val (.int p5), .val (.int p8), .val (.int p9), .val (.int (-1 : Int32)), .val (.int p7), .val (.int (3 : Int32)), s50, s51, s52] [] := by
  show Go Bff4 Z a0 h0 _ 0 0 (M4 a1 a2 a3 a4 a5 a6 a7 q0 q1 q2 q3 z101 z201 z301 z102 z202 z302 z103 z203 z303 z104 z204 z304 z105 z205 z305 z106 z206 z306 z107 z207 z307 z401 z402 z403) 63 #[.val (.ref a1), .val (.int p4), .val (.int p5), .val (.int p8), .val (.int p9), .val (.int (-1 : Int32)), .val (.int p7), .val (.int (3 : Int32)), s50, s51, s52] []
  have g0 := hI.r0; have g1 := hI.r1
  have g2 := s3.f0; have g3 := s3.f1; have g4 := s3.l0; have g5 := s3.l1
  refine go_iload 65 rfl d14_63 rfl ?_
  refine go_if 233 68 rfl (by decide) rfl d14_65 rfl (fun (hc65 : 0 ≤ (-1 : Int)) => absurd hc65 (by decide)) (fun (hc65 : ¬ (0 ≤ (-1 : Int))) => ?_)
  refine go_iload 70 rfl d14_68 rfl ?_
  refine go_if 233 73 rfl (by decide) rfl d14_70 rfl (fun (hc70 : (3 : Int) ≤ 0) => absurd hc70 (by decide)) (fun (hc70 : ¬ ((3 : Int) ≤ 0)) => ?_)
  refine go_aloadN 74 rfl d14_73 rfl rfl ?_
  refine go_iload 76 rfl d14_74 rfl ?_
  refine go_callP (host := "") 79 rfl d14_76 (Or.inl (wd hw 96 rfl)) (wd hw 97 rfl) (wd hw 98 rfl) (wd hw 9 rfl) (wd hw 10 rfl) (wd hw 99 rfl) (by decide) (Mo.exa (i := 0) rfl) (m_lb Z a0 hw h0 a1 a2 a3 a4 a5 a6 a7 [(.long q0), (.long q1), (.long q2), (.long q3)] [(.long (0 : Int64)), (.long (0 : Int64)), (.long (0 : Int64)), (.long (0 : Int64))] [(.int (0 : Int32)), (.int z101), (.int z102), (.int z103), (.int z104), (.int z105), (.int z106), (.int z107)] [(.int (0 : Int32)), (.int z201), (.int z202), (.int z203), (.int z204), (.int z205), (.int z206), (.int z207)] [(.int (0 : Int32)), (.int z301), (.int z302), (.int z303), (.int z304), (.int z305), (.int z306), (.int z307)] [(.int (0 : Int32)), (.int z401), (.int z402), (.int z403)] (3 : Int32) (4 : Int32) (1 : Int32) (by decide +kernel)) (argsL := [(.int (3 : Int32))]) (rest := []) rfl (ps := [.int]) (by decide +kernel) rfl rfl 0 rfl (by decide) (by decide) (by decide) (by decide) ?_
  rintro _ _ ⟨rfl, rfl⟩
  show Go Bff4 Z a0 h0 _ 0 0 (M4 a1 a2 a3 a4 a5 a6 a7 q0 q1 q2 q3 z101 z201 z301 z102 z202 z302 z103 z203 z303 z104 z204 z304 z105 z205 z305 z106 z206 z306 z107 z207 z307 z401 z402 z403) 79 #[.val (.ref a1), .val (.int p4), .val (.int p5), .val (.int p8), .val (.int p9), .val (.int (-1 : Int32)), .val (.int p7), .val (.int (3 : Int32)), s50, s51, s52] [(.int (1 : Int32))]
  refine go_istore #[.val (.ref a1), .val (.int p4), .val (.int p5), .val (.int p8), .val (.int p9), .val (.int (-1 : Int32)), .val (.int p7), .val (.int (3 : Int32)), .val (.int (1 : Int32)), s51, s52] 81 rfl d14_79 rfl (XS.store1 rfl h50 rfl) ?_
  refine go_bipush (64 : Int32) 83 rfl d14_81 rfl ?_
  refine go_iload 85 rfl d14_83 rfl ?_
  refine go_ishl 86 rfl d14_85 rfl ?_
  refine go_istore #[.val (.ref a1), .val (.int p4), .val (.int p5), .val (.int p8), .val (.int p9), .val (.int (-1 : Int32)), .val (.int p7), .val (.int (3 : Int32)), .val (.int (1 : Int32)), .val (.int (128 : Int32)), s52] 88 rfl d14_86 rfl (XS.store1 rfl h51 rfl) ?_
  refine go_iload 90 rfl d14_88 rfl ?_
  refine go_iload 92 rfl d14_90 rfl ?_
  refine go_ishl 93 rfl d14_92 rfl ?_
  refine go_aloadN 94 rfl d14_93 rfl rfl ?_
  refine go_get 0 0 97 rfl d14_94 rfl rfl rfl (wd hw 27 rfl) ?_
  refine go_isub 98 rfl d14_97 rfl ?_
  refine go_bipush (64 : Int32) 100 rfl d14_98 rfl ?_
  refine go_imul 101 rfl d14_100 rfl ?_
  refine go_istore #[.val (.ref a1), .val (.int p4), .val (.int p5), .val (.int p8), .val (.int p9), .val (.int (-1 : Int32)), .val (.int p7), .val (.int (3 : Int32)), .val (.int (1 : Int32)), .val (.int (128 : Int32)), .val (.int (128 : Int32))] 103 rfl d14_101 rfl (XS.store1 rfl h52 rfl) ?_
  refine go_aloadN 104 rfl d14_103 rfl rfl ?_
  refine go_get 0 2 107 rfl d14_104 rfl rfl rfl (wd hw 32 rfl) ?_
  refine go_iload 109 rfl d14_107 rfl ?_
  refine go_bipush (64 : Int32) 111 rfl d14_109 rfl ?_
  refine go_idiv 112 rfl d14_111 rfl (by decide) ?_
  refine go_laload 113 rfl d14_112 rfl (Mo.el (i := 2) rfl (by decide) rfl) ?_
  refine go_lconst (1 : Int64) 114 rfl d14_113 rfl ?_
  refine go_land 115 rfl d14_114 rfl ?_
  refine go_lconst (0 : Int64) 116 rfl d14_115 rfl ?_
  refine go_lcmp 117 rfl d14_116 rfl ?_
  refine go_if 123 120 rfl (by decide) rfl d14_117 rfl (fun (hc117 : (lcmpW ((0 : Int64) &&& (1 : Int64)) (0 : Int64)).toInt = 0) => ?_) (fun (hc117 : ¬ ((lcmpW ((0 : Int64) &&& (1 : Int64)) (0 : Int64)).toInt = 0)) => absurd hc117 (by decide))
  refine go_iload 125 rfl d14_123 rfl ?_
  refine go_aloadN 126 rfl d14_125 rfl rfl ?_
  refine go_get 0 3 129 rfl d14_126 rfl rfl rfl (wd hw 35 rfl) ?_
  refine go_iload 131 rfl d14_129 rfl ?_
  refine go_iaload 132 rfl d14_131 rfl (Mo.el (i := 3) rfl (by decide) rfl) ?_
  refine go_iadd 133 rfl d14_132 rfl ?_
  have fa7 : (p7 + z103).toInt = p7.toInt + z103.toInt := addE rfl rfl (by omega)
  refine go_iloadN 134 rfl d14_133 rfl ?_
  refine go_icmp 147 137 rfl (by decide) rfl d14_134 rfl (fun (hc134_85 : (p7 + z103).toInt < p5.toInt) => ?_) (fun (hc134_85 : ¬ ((p7 + z103).toInt < p5.toInt)) => ?_)
  · refine go_aloadN 148 rfl d14_147 rfl rfl ?_
    refine go_get 0 5 151 rfl d14_148 rfl rfl rfl (wd hw 39 rfl) ?_
    refine go_iload 153 rfl d14_151 rfl ?_
    refine go_iaload 154 rfl d14_153 rfl (Mo.el (i := 5) rfl (by decide) rfl) ?_
    refine go_iloadN 155 rfl d14_154 rfl ?_
    refine go_icmp 197 158 rfl (by decide) rfl d14_155 rfl (fun (hc155_86 : p5.toInt ≤ z303.toInt) => ?_) (fun (hc155_86 : ¬ (p5.toInt ≤ z303.toInt)) => ?_)
    · refine go_iload 199 rfl d14_197 rfl ?_
      refine go_aloadN 200 rfl d14_199 rfl rfl ?_
      refine go_get 0 0 203 rfl d14_200 rfl rfl rfl (wd hw 27 rfl) ?_
      refine go_icmp 224 206 rfl (by decide) rfl d14_203 rfl (fun (hc203 : (3 : Int) < (4 : Int)) => ?_) (fun (hc203 : ¬ ((3 : Int) < (4 : Int))) => absurd hc203 (by decide))
      refine go_iconst (2 : Int32) 225 rfl d14_224 rfl ?_
      refine go_iload 227 rfl d14_225 rfl ?_
      refine go_imul 228 rfl d14_227 rfl ?_
      refine go_istore #[.val (.ref a1), .val (.int p4), .val (.int p5), .val (.int p8), .val (.int p9), .val (.int (-1 : Int32)), .val (.int p7), .val (.int (6 : Int32)), .val (.int (1 : Int32)), .val (.int (128 : Int32)), .val (.int (128 : Int32))] 230 rfl d14_228 rfl rfl ?_
      refine go_goto 63 (by decide) rfl d14_230 ?_
      exact lp4_6 Z a0 hw h0 P a1 a2 a3 a4 a5 a6 a7 q0 q1 q2 q3 z101 z201 z301 z102 z202 z302 z103 z203 z303 z104 z204 z304 z105 z205 z305 z106 z206 z306 z107 z207 z307 z401 z402 z403 p4 p5 p7 p8 p9 (.val (.int (1 : Int32))) (Or.inr ⟨_, rfl, rfl⟩) (.val (.int (128 : Int32))) (Or.inr ⟨_, rfl, rfl⟩) (.val (.int (128 : Int32))) (Or.inr ⟨_, rfl, rfl⟩) h5 hF0 e0 e1 e2 e3 s1 s2 s3 s4 s5 s6 s7 hC hI
    · refine go_aloadN 159 rfl d14_158 rfl rfl ?_
      refine go_get 0 3 162 rfl d14_159 rfl rfl rfl (wd hw 35 rfl) ?_
      refine go_iload 164 rfl d14_162 rfl ?_
      refine go_iaload 165 rfl d14_164 rfl (Mo.el (i := 3) rfl (by decide) rfl) ?_
      refine go_iload 167 rfl d14_165 rfl ?_
      refine go_icmp 178 170 rfl (by decide) rfl d14_167 rfl (fun (hc167_87 : z103.toInt ≠ (128 : Int)) => ?_) (fun (hc167_87 : ¬ (z103.toInt ≠ (128 : Int))) => ?_)
      · refine go_aloadN 179 rfl d14_178 rfl rfl ?_
        refine go_get 0 4 182 rfl d14_179 rfl rfl rfl (wd hw 37 rfl) ?_
        refine go_iload 184 rfl d14_182 rfl ?_
        refine go_iaload 185 rfl d14_184 rfl (Mo.el (i := 4) rfl (by decide) rfl) ?_
        refine go_istore #[.val (.ref a1), .val (.int p4), .val (.int p5), .val (.int p8), .val (.int p9), .val (.int (-1 : Int32)), .val (.int z203), .val (.int (3 : Int32)), .val (.int (1 : Int32)), .val (.int (128 : Int32)), .val (.int (128 : Int32))] 187 rfl d14_185 rfl rfl ?_
        refine go_iload 189 rfl d14_187 rfl ?_
        refine go_callS 192 rfl d14_189 (wd hw 85 rfl) (wd hw 86 rfl) (wd hw 10 rfl) (wd hw 87 rfl) (by decide) (Met.frame (M4 a1 a2 a3 a4 a5 a6 a7 q0 q1 q2 q3 z101 z201 z301 z102 z202 z302 z103 z203 z303 z104 z204 z304 z105 z205 z305 z106 z206 z306 z107 z207 z307 z401 z402 z403) (mt70 Z a0 hw h0)) (argsL := [(.int (3 : Int32))]) (rest := []) rfl (ps := [.int]) (by decide +kernel) rfl rfl 0 rfl (by decide) (by decide) (by decide) (by decide) ?_
        rintro _ _ ⟨_, ⟨rfl, rfl⟩, rfl⟩
        show Go Bff4 Z a0 h0 _ 0 0 (M4 a1 a2 a3 a4 a5 a6 a7 q0 q1 q2 q3 z101 z201 z301 z102 z202 z302 z103 z203 z303 z104 z204 z304 z105 z205 z305 z106 z206 z306 z107 z207 z307 z401 z402 z403) 192 #[.val (.ref a1), .val (.int p4), .val (.int p5), .val (.int p8), .val (.int p9), .val (.int (-1 : Int32)), .val (.int z203), .val (.int (3 : Int32)), .val (.int (1 : Int32)), .val (.int (128 : Int32)), .val (.int (128 : Int32))] [(.int (0 : Int32))]
        refine go_istore #[.val (.ref a1), .val (.int p4), .val (.int p5), .val (.int p8), .val (.int p9), .val (.int (-1 : Int32)), .val (.int z203), .val (.int (0 : Int32)), .val (.int (1 : Int32)), .val (.int (128 : Int32)), .val (.int (128 : Int32))] 194 rfl d14_192 rfl rfl ?_
        refine go_goto 230 (by decide) rfl d14_194 ?_
        refine go_goto 63 (by decide) rfl d14_230 ?_
        exact lp4_0 Z a0 hw h0 P a1 a2 a3 a4 a5 a6 a7 q0 q1 q2 q3 z101 z201 z301 z102 z202 z302 z103 z203 z303 z104 z204 z304 z105 z205 z305 z106 z206 z306 z107 z207 z307 z401 z402 z403 p4 p5 z203 p8 p9 (.val (.int (1 : Int32))) (Or.inr ⟨_, rfl, rfl⟩) (.val (.int (128 : Int32))) (Or.inr ⟨_, rfl, rfl⟩) (.val (.int (128 : Int32))) (Or.inr ⟨_, rfl, rfl⟩) h5 hF0 e0 e1 e2 e3 s1 s2 s3 s4 s5 s6 s7 hC (hI.skip s3 (by omega) (by omega) (by omega) (by omega))
      · refine go_iload 172 rfl d14_170 rfl ?_
        refine go_iload 174 rfl d14_172 rfl ?_
        refine go_iadd 175 rfl d14_174 rfl ?_
        have fa8 : (p7 + (128 : Int32)).toInt = p7.toInt + (128 : Int) := addE rfl rfl (by omega)
        refine go_goto 185 (by decide) rfl d14_175 ?_
        refine go_istore #[.val (.ref a1), .val (.int p4), .val (.int p5), .val (.int p8), .val (.int p9), .val (.int (-1 : Int32)), .val (.int (p7 + (128 : Int32))), .val (.int (3 : Int32)), .val (.int (1 : Int32)), .val (.int (128 : Int32)), .val (.int (128 : Int32))] 187 rfl d14_185 rfl rfl ?_
        refine go_iload 189 rfl d14_187 rfl ?_
        refine go_callS 192 rfl d14_189 (wd hw 85 rfl) (wd hw 86 rfl) (wd hw 10 rfl) (wd hw 87 rfl) (by decide) (Met.frame (M4 a1 a2 a3 a4 a5 a6 a7 q0 q1 q2 q3 z101 z201 z301 z102 z202 z302 z103 z203 z303 z104 z204 z304 z105 z205 z305 z106 z206 z306 z107 z207 z307 z401 z402 z403) (mt70 Z a0 hw h0)) (argsL := [(.int (3 : Int32))]) (rest := []) rfl (ps := [.int]) (by decide +kernel) rfl rfl 0 rfl (by decide) (by decide) (by decide) (by decide) ?_
        rintro _ _ ⟨_, ⟨rfl, rfl⟩, rfl⟩
        show Go Bff4 Z a0 h0 _ 0 0 (M4 a1 a2 a3 a4 a5 a6 a7 q0 q1 q2 q3 z101 z201 z301 z102 z202 z302 z103 z203 z303 z104 z204 z304 z105 z205 z305 z106 z206 z306 z107 z207 z307 z401 z402 z403) 192 #[.val (.ref a1), .val (.int p4), .val (.int p5), .val (.int p8), .val (.int p9), .val (.int (-1 : Int32)), .val (.int (p7 + (128 : Int32))), .val (.int (3 : Int32)), .val (.int (1 : Int32)), .val (.int (128 : Int32)), .val (.int (128 : Int32))] [(.int (0 : Int32))]
        refine go_istore #[.val (.ref a1), .val (.int p4), .val (.int p5), .val (.int p8), .val (.int p9), .val (.int (-1 : Int32)), .val (.int (p7 + (128 : Int32))), .val (.int (0 : Int32)), .val (.int (1 : Int32)), .val (.int (128 : Int32)), .val (.int (128 : Int32))] 194 rfl d14_192 rfl rfl ?_
        refine go_goto 230 (by decide) rfl d14_194 ?_
        refine go_goto 63 (by decide) rfl d14_230 ?_
        exact lp4_0 Z a0 hw h0 P a1 a2 a3 a4 a5 a6 a7 q0 q1 q2 q3 z101 z201 z301 z102 z202 z302 z103 z203 z303 z104 z204 z304 z105 z205 z305 z106 z206 z306 z107 z207 z307 z401 z402 z403 p4 p5 (p7 + (128 : Int32)) p8 p9 (.val (.int (1 : Int32))) (Or.inr ⟨_, rfl, rfl⟩) (.val (.int (128 : Int32))) (Or.inr ⟨_, rfl, rfl⟩) (.val (.int (128 : Int32))) (Or.inr ⟨_, rfl, rfl⟩) h5 hF0 e0 e1 e2 e3 s1 s2 s3 s4 s5 s6 s7 hC (hI.skip s3 (by omega) (by omega) (by omega) (by omega))
  · refine go_iload 139 rfl d14_137 rfl ?_
    refine go_iload 141 rfl d14_139 rfl ?_
    refine go_isub 142 rfl d14_141 rfl ?_
    have fa9 : ((128 : Int32) - p7).toInt = (128 : Int) - p7.toInt := subE rfl rfl (by omega)
    refine go_istore #[.val (.ref a1), .val (.int p4), .val (.int p5), .val (.int p8), .val (.int p9), .val (.int ((128 : Int32) - p7)), .val (.int p7), .val (.int (3 : Int32)), .val (.int (1 : Int32)), .val (.int (128 : Int32)), .val (.int (128 : Int32))] 144 rfl d14_142 rfl rfl ?_
    refine go_goto 230 (by decide) rfl d14_144 ?_
    refine go_goto 63 (by decide) rfl d14_230 ?_
    refine go_iload 65 rfl d14_63 rfl ?_
    refine go_if 233 68 rfl (by decide) rfl d14_65 rfl (fun (hc65 : 0 ≤ ((128 : Int32) - p7).toInt) => ?_) (fun (hc65 : ¬ (0 ≤ ((128 : Int32) - p7).toInt)) => absurd hc65 (by omega))
    refine go_iload 235 rfl d14_233 rfl ?_
    exact go_ireturn d14_235 rfl (Or.inl rfl) rfl rfl (by decide) (by decide) ⟨_, _, _, _, _, _, _, _, _, _, _, _, (Inv4.mk e0 e1 e2 e3 s4 s5 s6 s7 (fun _ => ⟨s1, s2, s3⟩) (fun _ => s2) (fun _ => s3)), _, (by rw [show ((128 : Int32) - p7).toInt = 128 - p7.toInt from by omega]; exact hI.found s3 h5.1 (by omega)), rfl, rfl⟩
theorem lp4_5 (Z : State) (a0 : Array Value) (hw : ∀ d ∈ tables_1, d.before a0 Z = true) (h0 : Heap) (P : Fr1) (a1 a2 a3 a4 a5 a6 a7 : Addr) (q0 q1 q2 q3 : Int64) (z101 z201 z301 z102 z202 z302 z103 z203 z303 z104 z204 z304 z105 z205 z305 z106 z206 z306 z107 z207 z307 z401 z402 z403 : Int32) (p4 p5 p7 p8 p9 : Int32) (s50 : Slot) (h50 : s50 = .unset ∨ ∃ w, s50 = .val w ∧ w.category = 1) (s51 : Slot) (h51 : s51 = .unset ∨ ∃ w, s51 = .val w ∧ w.category = 1) (s52 : Slot) (h52 : s52 = .unset ∨ ∃ w, s52 = .val w ∧ w.category = 1) (h5 : 0 < p5.toInt ∧ p5.toInt ≤ 256) (hF0 : 0 ≤ p4.toInt) (e0 : Fre P 0 q0) (e1 : Fre P 1 q1) (e2 : Fre P 2 q2) (e3 : Fre P 3 q3) (s1 : Sm P 0 256 z101.toInt z201.toInt z301.toInt) (s2 : Sm P 0 128 z102.toInt z202.toInt z302.toInt) (s3 : Sm P 128 256 z103.toInt z203.toInt z303.toInt) (s4 : Sm P 0 64 z104.toInt z204.toInt z304.toInt) (s5 : Sm P 64 128 z105.toInt z205.toInt z305.toInt) (s6 : Sm P 128 192 z106.toInt z206.toInt z306.toInt) (s7 : Sm P 192 256 z107.toInt z207.toInt z307.toInt) (hC : ∀ x, 256 ≤ x → ¬ P x) (hI : LI P p4.toInt p5.toInt 64 p7.toInt) :
    Go Bff4 Z a0 h0 (fun v ds => ∃ y10 y11 y12 y13 y20 y21 y22 y23 y30 y31 y32 y33 : Int32, Inv4 P q0 q1 q2 q3 y10 y11 y12 y20 y21 y22 y30 y31 y32 z104 z204 z304 z105 z205 z305 z106 z206 z306 z107 z207 z307 y13 y23 y33 ∧ ∃ z : Int32, Ans P p4.toInt p5.toInt z.toInt ∧ Ret (some (.int z)) (M4 a1 a2 a3 a4 a5 a6 a7 q0 q1 q2 q3 y10 y11 y12 y20 y21 y22 y30 y31 y32 z104 z204 z304 z105 z205 z305 z106 z206 z306 z107 z207 z307 y13 y23 y33) v ds) 0 0 (M4 a1 a2 a3 a4 a5 a6 a7 q0 q1 q2 q3 z101 z201 z301 z102 z202 z302 z103 z203 z303 z104 z204 z304 z105 z205 z305 z106 z206 z306 z107 z207 z307 z401 z402 z403) 63 #[.val (.ref a1), .val (.int p4), .val (.int p5), .val (.int p8), .val (.int p9), .val (.int (-1 : Int32)), .val (.int p7), .val (.int (5 : Int32)), s50, s51, s52] [] := by
  show Go Bff4 Z a0 h0 _ 0 0 (M4 a1 a2 a3 a4 a5 a6 a7 q0 q1 q2 q3 z101 z201 z301 z102 z202 z302 z103 z203 z303 z104 z204 z304 z105 z205 z305 z106 z206 z306 z107 z207 z307 z401 z402 z403) 63 #[.val (.ref a1), .val (.int p4), .val (.int p5), .val (.int p8), .val (.int p9), .val (.int (-1 : Int32)), .val (.int p7), .val (.int (5 : Int32)), s50, s51, s52] []
  have g0 := hI.r0; have g1 := hI.r1
  have g2 := s5.f0; have g3 := s5.f1; have g4 := s5.l0; have g5 := s5.l1
  refine go_iload 65 rfl d14_63 rfl ?_
  refine go_if 233 68 rfl (by decide) rfl d14_65 rfl (fun (hc65 : 0 ≤ (-1 : Int)) => absurd hc65 (by decide)) (fun (hc65 : ¬ (0 ≤ (-1 : Int))) => ?_)
  refine go_iload 70 rfl d14_68 rfl ?_
  refine go_if 233 73 rfl (by decide) rfl d14_70 rfl (fun (hc70 : (5 : Int) ≤ 0) => absurd hc70 (by decide)) (fun (hc70 : ¬ ((5 : Int) ≤ 0)) => ?_)
  refine go_aloadN 74 rfl d14_73 rfl rfl ?_
  refine go_iload 76 rfl d14_74 rfl ?_
  refine go_callP (host := "") 79 rfl d14_76 (Or.inl (wd hw 96 rfl)) (wd hw 97 rfl) (wd hw 98 rfl) (wd hw 9 rfl) (wd hw 10 rfl) (wd hw 99 rfl) (by decide) (Mo.exa (i := 0) rfl) (m_lb Z a0 hw h0 a1 a2 a3 a4 a5 a6 a7 [(.long q0), (.long q1), (.long q2), (.long q3)] [(.long (0 : Int64)), (.long (0 : Int64)), (.long (0 : Int64)), (.long (0 : Int64))] [(.int (0 : Int32)), (.int z101), (.int z102), (.int z103), (.int z104), (.int z105), (.int z106), (.int z107)] [(.int (0 : Int32)), (.int z201), (.int z202), (.int z203), (.int z204), (.int z205), (.int z206), (.int z207)] [(.int (0 : Int32)), (.int z301), (.int z302), (.int z303), (.int z304), (.int z305), (.int z306), (.int z307)] [(.int (0 : Int32)), (.int z401), (.int z402), (.int z403)] (5 : Int32) (4 : Int32) (0 : Int32) (by decide +kernel)) (argsL := [(.int (5 : Int32))]) (rest := []) rfl (ps := [.int]) (by decide +kernel) rfl rfl 0 rfl (by decide) (by decide) (by decide) (by decide) ?_
  rintro _ _ ⟨rfl, rfl⟩
  show Go Bff4 Z a0 h0 _ 0 0 (M4 a1 a2 a3 a4 a5 a6 a7 q0 q1 q2 q3 z101 z201 z301 z102 z202 z302 z103 z203 z303 z104 z204 z304 z105 z205 z305 z106 z206 z306 z107 z207 z307 z401 z402 z403) 79 #[.val (.ref a1), .val (.int p4), .val (.int p5), .val (.int p8), .val (.int p9), .val (.int (-1 : Int32)), .val (.int p7), .val (.int (5 : Int32)), s50, s51, s52] [(.int (0 : Int32))]
  refine go_istore #[.val (.ref a1), .val (.int p4), .val (.int p5), .val (.int p8), .val (.int p9), .val (.int (-1 : Int32)), .val (.int p7), .val (.int (5 : Int32)), .val (.int (0 : Int32)), s51, s52] 81 rfl d14_79 rfl (XS.store1 rfl h50 rfl) ?_
  refine go_bipush (64 : Int32) 83 rfl d14_81 rfl ?_
  refine go_iload 85 rfl d14_83 rfl ?_
  refine go_ishl 86 rfl d14_85 rfl ?_
  refine go_istore #[.val (.ref a1), .val (.int p4), .val (.int p5), .val (.int p8), .val (.int p9), .val (.int (-1 : Int32)), .val (.int p7), .val (.int (5 : Int32)), .val (.int (0 : Int32)), .val (.int (64 : Int32)), s52] 88 rfl d14_86 rfl (XS.store1 rfl h51 rfl) ?_
  refine go_iload 90 rfl d14_88 rfl ?_
  refine go_iload 92 rfl d14_90 rfl ?_
  refine go_ishl 93 rfl d14_92 rfl ?_
  refine go_aloadN 94 rfl d14_93 rfl rfl ?_
  refine go_get 0 0 97 rfl d14_94 rfl rfl rfl (wd hw 27 rfl) ?_
  refine go_isub 98 rfl d14_97 rfl ?_
  refine go_bipush (64 : Int32) 100 rfl d14_98 rfl ?_
  refine go_imul 101 rfl d14_100 rfl ?_
  refine go_istore #[.val (.ref a1), .val (.int p4), .val (.int p5), .val (.int p8), .val (.int p9), .val (.int (-1 : Int32)), .val (.int p7), .val (.int (5 : Int32)), .val (.int (0 : Int32)), .val (.int (64 : Int32)), .val (.int (64 : Int32))] 103 rfl d14_101 rfl (XS.store1 rfl h52 rfl) ?_
  refine go_aloadN 104 rfl d14_103 rfl rfl ?_
  refine go_get 0 2 107 rfl d14_104 rfl rfl rfl (wd hw 32 rfl) ?_
  refine go_iload 109 rfl d14_107 rfl ?_
  refine go_bipush (64 : Int32) 111 rfl d14_109 rfl ?_
  refine go_idiv 112 rfl d14_111 rfl (by decide) ?_
  refine go_laload 113 rfl d14_112 rfl (Mo.el (i := 2) rfl (by decide) rfl) ?_
  refine go_lconst (1 : Int64) 114 rfl d14_113 rfl ?_
  refine go_land 115 rfl d14_114 rfl ?_
  refine go_lconst (0 : Int64) 116 rfl d14_115 rfl ?_
  refine go_lcmp 117 rfl d14_116 rfl ?_
  refine go_if 123 120 rfl (by decide) rfl d14_117 rfl (fun (hc117 : (lcmpW ((0 : Int64) &&& (1 : Int64)) (0 : Int64)).toInt = 0) => ?_) (fun (hc117 : ¬ ((lcmpW ((0 : Int64) &&& (1 : Int64)) (0 : Int64)).toInt = 0)) => absurd hc117 (by decide))
  refine go_iload 125 rfl d14_123 rfl ?_
  refine go_aloadN 126 rfl d14_125 rfl rfl ?_
  refine go_get 0 3 129 rfl d14_126 rfl rfl rfl (wd hw 35 rfl) ?_
  refine go_iload 131 rfl d14_129 rfl ?_
  refine go_iaload 132 rfl d14_131 rfl (Mo.el (i := 3) rfl (by decide) rfl) ?_
  refine go_iadd 133 rfl d14_132 rfl ?_
  have fa10 : (p7 + z105).toInt = p7.toInt + z105.toInt := addE rfl rfl (by omega)
  refine go_iloadN 134 rfl d14_133 rfl ?_
  refine go_icmp 147 137 rfl (by decide) rfl d14_134 rfl (fun (hc134_88 : (p7 + z105).toInt < p5.toInt) => ?_) (fun (hc134_88 : ¬ ((p7 + z105).toInt < p5.toInt)) => ?_)
  · refine go_aloadN 148 rfl d14_147 rfl rfl ?_
    refine go_get 0 5 151 rfl d14_148 rfl rfl rfl (wd hw 39 rfl) ?_
    refine go_iload 153 rfl d14_151 rfl ?_
    refine go_iaload 154 rfl d14_153 rfl (Mo.el (i := 5) rfl (by decide) rfl) ?_
    refine go_iloadN 155 rfl d14_154 rfl ?_
    refine go_icmp 197 158 rfl (by decide) rfl d14_155 rfl (fun (hc155_89 : p5.toInt ≤ z305.toInt) => ?_) (fun (hc155_89 : ¬ (p5.toInt ≤ z305.toInt)) => ?_)
    · refine go_iload 199 rfl d14_197 rfl ?_
      refine go_aloadN 200 rfl d14_199 rfl rfl ?_
      refine go_get 0 0 203 rfl d14_200 rfl rfl rfl (wd hw 27 rfl) ?_
      refine go_icmp 224 206 rfl (by decide) rfl d14_203 rfl (fun (hc203 : (5 : Int) < (4 : Int)) => absurd hc203 (by decide)) (fun (hc203 : ¬ ((5 : Int) < (4 : Int))) => ?_)
      refine go_aloadN 207 rfl d14_206 rfl rfl ?_
      refine go_iload 209 rfl d14_207 rfl ?_
      refine go_aloadN 210 rfl d14_209 rfl rfl ?_
      refine go_get 0 0 213 rfl d14_210 rfl rfl rfl (wd hw 27 rfl) ?_
      refine go_isub 214 rfl d14_213 rfl ?_
      refine go_iconst (0 : Int32) 215 rfl d14_214 rfl ?_
      refine go_iloadN 216 rfl d14_215 rfl ?_
      refine go_callP (host := "") 219 rfl d14_216 (Or.inl (wd hw 76 rfl)) (wd hw 77 rfl) (wd hw 78 rfl) (wd hw 9 rfl) (wd hw 10 rfl) (wd hw 79 rfl) (by decide) (Mo.exa (i := 0) rfl) (m_scan Z a0 hw h0 P a1 a2 a3 a4 a5 a6 a7 [(.long q0), (.long q1), (.long q2), (.long q3)] [(.long (0 : Int64)), (.long (0 : Int64)), (.long (0 : Int64)), (.long (0 : Int64))] [(.int (0 : Int32)), (.int z101), (.int z102), (.int z103), (.int z104), (.int z105), (.int z106), (.int z107)] [(.int (0 : Int32)), (.int z201), (.int z202), (.int z203), (.int z204), (.int z205), (.int z206), (.int z207)] [(.int (0 : Int32)), (.int z301), (.int z302), (.int z303), (.int z304), (.int z305), (.int z306), (.int z307)] [(.int (0 : Int32)), (.int z401), (.int z402), (.int z403)] (1 : Int32) (4 : Int32) (0 : Int32) p5 q1 1 128 64 rfl rfl (by decide) e1 rfl (by decide) (by decide) h5 (by decide) (by decide)) (argsL := [(.int (1 : Int32)), (.int (0 : Int32)), (.int p5)]) (rest := []) rfl (ps := [.int, .int, .int]) (by decide +kernel) rfl rfl 0 rfl (by decide) (by decide) (by decide) (by decide) ?_
      rintro _ _ ⟨z635, rfl, rfl, hz635⟩
      show Go Bff4 Z a0 h0 _ 0 0 (M4 a1 a2 a3 a4 a5 a6 a7 q0 q1 q2 q3 z101 z201 z301 z102 z202 z302 z103 z203 z303 z104 z204 z304 z105 z205 z305 z106 z206 z306 z107 z207 z307 z401 z402 z403) 219 #[.val (.ref a1), .val (.int p4), .val (.int p5), .val (.int p8), .val (.int p9), .val (.int (-1 : Int32)), .val (.int p7), .val (.int (5 : Int32)), .val (.int (0 : Int32)), .val (.int (64 : Int32)), .val (.int (64 : Int32))] [(.int z635)]
      refine go_istore #[.val (.ref a1), .val (.int p4), .val (.int p5), .val (.int p8), .val (.int p9), .val (.int z635), .val (.int p7), .val (.int (5 : Int32)), .val (.int (0 : Int32)), .val (.int (64 : Int32)), .val (.int (64 : Int32))] 221 rfl d14_219 rfl rfl ?_
      refine go_goto 230 (by decide) rfl d14_221 ?_
      refine go_goto 63 (by decide) rfl d14_230 ?_
      refine go_iload 65 rfl d14_63 rfl ?_
      refine go_if 233 68 rfl (by decide) rfl d14_65 rfl (fun (hc65 : 0 ≤ z635.toInt) => ?_) (fun (hc65 : ¬ (0 ≤ z635.toInt)) => absurd hc65 (by have := (hI.scan s5 (by omega) h5.1 (by omega) (by omega) hz635).1; omega))
      refine go_iload 235 rfl d14_233 rfl ?_
      exact go_ireturn d14_235 rfl (Or.inl rfl) rfl rfl (by decide) (by decide) ⟨_, _, _, _, _, _, _, _, _, _, _, _, (Inv4.mk e0 e1 e2 e3 s4 s5 s6 s7 (fun _ => ⟨s1, s2, s3⟩) (fun _ => s2) (fun _ => s3)), _, (hI.scan s5 (by omega) h5.1 (by omega) (by omega) hz635).2, rfl, rfl⟩
    · refine go_aloadN 159 rfl d14_158 rfl rfl ?_
      refine go_get 0 3 162 rfl d14_159 rfl rfl rfl (wd hw 35 rfl) ?_
      refine go_iload 164 rfl d14_162 rfl ?_
      refine go_iaload 165 rfl d14_164 rfl (Mo.el (i := 3) rfl (by decide) rfl) ?_
      refine go_iload 167 rfl d14_165 rfl ?_
      refine go_icmp 178 170 rfl (by decide) rfl d14_167 rfl (fun (hc167_90 : z105.toInt ≠ (64 : Int)) => ?_) (fun (hc167_90 : ¬ (z105.toInt ≠ (64 : Int))) => ?_)
      · refine go_aloadN 179 rfl d14_178 rfl rfl ?_
        refine go_get 0 4 182 rfl d14_179 rfl rfl rfl (wd hw 37 rfl) ?_
        refine go_iload 184 rfl d14_182 rfl ?_
        refine go_iaload 185 rfl d14_184 rfl (Mo.el (i := 4) rfl (by decide) rfl) ?_
        refine go_istore #[.val (.ref a1), .val (.int p4), .val (.int p5), .val (.int p8), .val (.int p9), .val (.int (-1 : Int32)), .val (.int z205), .val (.int (5 : Int32)), .val (.int (0 : Int32)), .val (.int (64 : Int32)), .val (.int (64 : Int32))] 187 rfl d14_185 rfl rfl ?_
        refine go_iload 189 rfl d14_187 rfl ?_
        refine go_callS 192 rfl d14_189 (wd hw 85 rfl) (wd hw 86 rfl) (wd hw 10 rfl) (wd hw 87 rfl) (by decide) (Met.frame (M4 a1 a2 a3 a4 a5 a6 a7 q0 q1 q2 q3 z101 z201 z301 z102 z202 z302 z103 z203 z303 z104 z204 z304 z105 z205 z305 z106 z206 z306 z107 z207 z307 z401 z402 z403) (mt92 Z a0 hw h0)) (argsL := [(.int (5 : Int32))]) (rest := []) rfl (ps := [.int]) (by decide +kernel) rfl rfl 0 rfl (by decide) (by decide) (by decide) (by decide) ?_
        rintro _ _ ⟨_, ⟨rfl, rfl⟩, rfl⟩
        show Go Bff4 Z a0 h0 _ 0 0 (M4 a1 a2 a3 a4 a5 a6 a7 q0 q1 q2 q3 z101 z201 z301 z102 z202 z302 z103 z203 z303 z104 z204 z304 z105 z205 z305 z106 z206 z306 z107 z207 z307 z401 z402 z403) 192 #[.val (.ref a1), .val (.int p4), .val (.int p5), .val (.int p8), .val (.int p9), .val (.int (-1 : Int32)), .val (.int z205), .val (.int (5 : Int32)), .val (.int (0 : Int32)), .val (.int (64 : Int32)), .val (.int (64 : Int32))] [(.int (3 : Int32))]
        refine go_istore #[.val (.ref a1), .val (.int p4), .val (.int p5), .val (.int p8), .val (.int p9), .val (.int (-1 : Int32)), .val (.int z205), .val (.int (3 : Int32)), .val (.int (0 : Int32)), .val (.int (64 : Int32)), .val (.int (64 : Int32))] 194 rfl d14_192 rfl rfl ?_
        refine go_goto 230 (by decide) rfl d14_194 ?_
        refine go_goto 63 (by decide) rfl d14_230 ?_
        exact lp4_3 Z a0 hw h0 P a1 a2 a3 a4 a5 a6 a7 q0 q1 q2 q3 z101 z201 z301 z102 z202 z302 z103 z203 z303 z104 z204 z304 z105 z205 z305 z106 z206 z306 z107 z207 z307 z401 z402 z403 p4 p5 z205 p8 p9 (.val (.int (0 : Int32))) (Or.inr ⟨_, rfl, rfl⟩) (.val (.int (64 : Int32))) (Or.inr ⟨_, rfl, rfl⟩) (.val (.int (64 : Int32))) (Or.inr ⟨_, rfl, rfl⟩) h5 hF0 e0 e1 e2 e3 s1 s2 s3 s4 s5 s6 s7 hC (hI.skip s5 (by omega) (by omega) (by omega) (by omega))
      · refine go_iload 172 rfl d14_170 rfl ?_
        refine go_iload 174 rfl d14_172 rfl ?_
        refine go_iadd 175 rfl d14_174 rfl ?_
        have fa11 : (p7 + (64 : Int32)).toInt = p7.toInt + (64 : Int) := addE rfl rfl (by omega)
        refine go_goto 185 (by decide) rfl d14_175 ?_
        refine go_istore #[.val (.ref a1), .val (.int p4), .val (.int p5), .val (.int p8), .val (.int p9), .val (.int (-1 : Int32)), .val (.int (p7 + (64 : Int32))), .val (.int (5 : Int32)), .val (.int (0 : Int32)), .val (.int (64 : Int32)), .val (.int (64 : Int32))] 187 rfl d14_185 rfl rfl ?_
        refine go_iload 189 rfl d14_187 rfl ?_
        refine go_callS 192 rfl d14_189 (wd hw 85 rfl) (wd hw 86 rfl) (wd hw 10 rfl) (wd hw 87 rfl) (by decide) (Met.frame (M4 a1 a2 a3 a4 a5 a6 a7 q0 q1 q2 q3 z101 z201 z301 z102 z202 z302 z103 z203 z303 z104 z204 z304 z105 z205 z305 z106 z206 z306 z107 z207 z307 z401 z402 z403) (mt92 Z a0 hw h0)) (argsL := [(.int (5 : Int32))]) (rest := []) rfl (ps := [.int]) (by decide +kernel) rfl rfl 0 rfl (by decide) (by decide) (by decide) (by decide) ?_
        rintro _ _ ⟨_, ⟨rfl, rfl⟩, rfl⟩
        show Go Bff4 Z a0 h0 _ 0 0 (M4 a1 a2 a3 a4 a5 a6 a7 q0 q1 q2 q3 z101 z201 z301 z102 z202 z302 z103 z203 z303 z104 z204 z304 z105 z205 z305 z106 z206 z306 z107 z207 z307 z401 z402 z403) 192 #[.val (.ref a1), .val (.int p4), .val (.int p5), .val (.int p8), .val (.int p9), .val (.int (-1 : Int32)), .val (.int (p7 + (64 : Int32))), .val (.int (5 : Int32)), .val (.int (0 : Int32)), .val (.int (64 : Int32)), .val (.int (64 : Int32))] [(.int (3 : Int32))]
        refine go_istore #[.val (.ref a1), .val (.int p4), .val (.int p5), .val (.int p8), .val (.int p9), .val (.int (-1 : Int32)), .val (.int (p7 + (64 : Int32))), .val (.int (3 : Int32)), .val (.int (0 : Int32)), .val (.int (64 : Int32)), .val (.int (64 : Int32))] 194 rfl d14_192 rfl rfl ?_
        refine go_goto 230 (by decide) rfl d14_194 ?_
        refine go_goto 63 (by decide) rfl d14_230 ?_
        exact lp4_3 Z a0 hw h0 P a1 a2 a3 a4 a5 a6 a7 q0 q1 q2 q3 z101 z201 z301 z102 z202 z302 z103 z203 z303 z104 z204 z304 z105 z205 z305 z106 z206 z306 z107 z207 z307 z401 z402 z403 p4 p5 (p7 + (64 : Int32)) p8 p9 (.val (.int (0 : Int32))) (Or.inr ⟨_, rfl, rfl⟩) (.val (.int (64 : Int32))) (Or.inr ⟨_, rfl, rfl⟩) (.val (.int (64 : Int32))) (Or.inr ⟨_, rfl, rfl⟩) h5 hF0 e0 e1 e2 e3 s1 s2 s3 s4 s5 s6 s7 hC (hI.skip s5 (by omega) (by omega) (by omega) (by omega))
  · refine go_iload 139 rfl d14_137 rfl ?_
    refine go_iload 141 rfl d14_139 rfl ?_
    refine go_isub 142 rfl d14_141 rfl ?_
    have fa12 : ((64 : Int32) - p7).toInt = (64 : Int) - p7.toInt := subE rfl rfl (by omega)
    refine go_istore #[.val (.ref a1), .val (.int p4), .val (.int p5), .val (.int p8), .val (.int p9), .val (.int ((64 : Int32) - p7)), .val (.int p7), .val (.int (5 : Int32)), .val (.int (0 : Int32)), .val (.int (64 : Int32)), .val (.int (64 : Int32))] 144 rfl d14_142 rfl rfl ?_
    refine go_goto 230 (by decide) rfl d14_144 ?_
    refine go_goto 63 (by decide) rfl d14_230 ?_
    refine go_iload 65 rfl d14_63 rfl ?_
    refine go_if 233 68 rfl (by decide) rfl d14_65 rfl (fun (hc65 : 0 ≤ ((64 : Int32) - p7).toInt) => ?_) (fun (hc65 : ¬ (0 ≤ ((64 : Int32) - p7).toInt)) => absurd hc65 (by omega))
    refine go_iload 235 rfl d14_233 rfl ?_
    exact go_ireturn d14_235 rfl (Or.inl rfl) rfl rfl (by decide) (by decide) ⟨_, _, _, _, _, _, _, _, _, _, _, _, (Inv4.mk e0 e1 e2 e3 s4 s5 s6 s7 (fun _ => ⟨s1, s2, s3⟩) (fun _ => s2) (fun _ => s3)), _, (by rw [show ((64 : Int32) - p7).toInt = 64 - p7.toInt from by omega]; exact hI.found s5 h5.1 (by omega)), rfl, rfl⟩
theorem m_ff4 (Z : State) (a0 : Array Value) (hw : ∀ d ∈ tables_1, d.before a0 Z = true) (h0 : Heap) (P : Fr1) (a1 a2 a3 a4 a5 a6 a7 : Addr) (q0 q1 q2 q3 : Int64) (z101 z201 z301 z102 z202 z302 z103 z203 z303 z104 z204 z304 z105 z205 z305 z106 z206 z306 z107 z207 z307 z401 z402 z403 : Int32) (p4 p5 : Int32) (hV : Inv4 P q0 q1 q2 q3 z101 z201 z301 z102 z202 z302 z103 z203 z303 z104 z204 z304 z105 z205 z305 z106 z206 z306 z107 z207 z307 z401 z402 z403) (h5 : 0 < p5.toInt ∧ p5.toInt ≤ 256) (hF0 : 0 ≤ p4.toInt) (hF1 : p4.toInt < 256) (hC : ∀ x, 256 ≤ x → ¬ P x) :
    Met Bff4 Z a0 h0 #[(.ref a1), (.int p4), (.int p5)] (M4 a1 a2 a3 a4 a5 a6 a7 q0 q1 q2 q3 z101 z201 z301 z102 z202 z302 z103 z203 z303 z104 z204 z304 z105 z205 z305 z106 z206 z306 z107 z207 z307 z401 z402 z403) (fun v ds => ∃ y10 y11 y12 y13 y20 y21 y22 y23 y30 y31 y32 y33 : Int32, Inv4 P q0 q1 q2 q3 y10 y11 y12 y20 y21 y22 y30 y31 y32 z104 z204 z304 z105 z205 z305 z106 z206 z306 z107 z207 z307 y13 y23 y33 ∧ ∃ z : Int32, Ans P p4.toInt p5.toInt z.toInt ∧ Ret (some (.int z)) (M4 a1 a2 a3 a4 a5 a6 a7 q0 q1 q2 q3 y10 y11 y12 y20 y21 y22 y30 y31 y32 z104 z204 z304 z105 z205 z305 z106 z206 z306 z107 z207 z307 y13 y23 y33) v ds) := by
  refine Met.of pn14 (ls := #[.val (.ref a1), .val (.int p4), .val (.int p5), .unset, .unset, .unset, .unset, .unset, .unset, .unset, .unset]) (fun m => by first | (simp [entryFrame, mkF, argsToLocals, Value.category, Bff4]; done) | rfl) ?_
  refine go_iloadN 1 rfl d14_0 rfl ?_
  refine go_bipush (64 : Int32) 3 rfl d14_1 rfl ?_
  refine go_idiv 4 rfl d14_3 rfl (by decide) ?_
  have ed := (c_idiv p4 (64 : Int32) 64 rfl (by decide)).1 (by omega)
  have ec : p4 / (64 : Int32) = (0 : Int32) ∧ (0 ≤ p4.toInt ∧ p4.toInt < 64) ∨ p4 / (64 : Int32) = (1 : Int32) ∧ (64 ≤ p4.toInt ∧ p4.toInt < 128) ∨ p4 / (64 : Int32) = (2 : Int32) ∧ (128 ≤ p4.toInt ∧ p4.toInt < 192) ∨ p4 / (64 : Int32) = (3 : Int32) ∧ (192 ≤ p4.toInt ∧ p4.toInt < 256) := by
    have : (p4 / (64 : Int32)).toInt = 0 ∨ (p4 / (64 : Int32)).toInt = 1 ∨ (p4 / (64 : Int32)).toInt = 2 ∨ (p4 / (64 : Int32)).toInt = 3 := by omega
    rcases this with q | q | q | q
    · exact Or.inl ⟨i32_of q rfl, by omega⟩
    · exact Or.inr (Or.inl ⟨i32_of q rfl, by omega⟩)
    · exact Or.inr (Or.inr (Or.inl ⟨i32_of q rfl, by omega⟩))
    · exact Or.inr (Or.inr (Or.inr (⟨i32_of q rfl, by omega⟩)))
  rcases ec with ⟨ec, hr⟩ | ⟨ec, hr⟩ | ⟨ec, hr⟩ | ⟨ec, hr⟩
  · rw [ec]
    refine go_istoreN #[.val (.ref a1), .val (.int p4), .val (.int p5), .val (.int (0 : Int32)), .unset, .unset, .unset, .unset, .unset, .unset, .unset] 5 rfl d14_4 rfl rfl ?_
    refine go_iloadN 6 rfl d14_5 rfl ?_
    refine go_bipush (64 : Int32) 8 rfl d14_6 rfl ?_
    refine go_irem 9 rfl d14_8 rfl (by decide) ?_
    have er := (c_irem p4 (64 : Int32) 64 rfl).1 (by omega)
    generalize p4 % (64 : Int32) = p9 at er ⊢
    refine go_istore #[.val (.ref a1), .val (.int p4), .val (.int p5), .val (.int (0 : Int32)), .val (.int p9), .unset, .unset, .unset, .unset, .unset, .unset] 11 rfl d14_9 rfl rfl ?_
    refine go_aloadN 12 rfl d14_11 rfl rfl ?_
    refine go_iloadN 13 rfl d14_12 rfl ?_
    refine go_iload 15 rfl d14_13 rfl ?_
    refine go_iloadN 16 rfl d14_15 rfl ?_
    refine go_callP (host := "") 19 rfl d14_16 (Or.inl (wd hw 76 rfl)) (wd hw 77 rfl) (wd hw 78 rfl) (wd hw 9 rfl) (wd hw 10 rfl) (wd hw 79 rfl) (by decide) (Mo.exa (i := 0) rfl) (m_scan Z a0 hw h0 P a1 a2 a3 a4 a5 a6 a7 [(.long q0), (.long q1), (.long q2), (.long q3)] [(.long (0 : Int64)), (.long (0 : Int64)), (.long (0 : Int64)), (.long (0 : Int64))] [(.int (0 : Int32)), (.int z101), (.int z102), (.int z103), (.int z104), (.int z105), (.int z106), (.int z107)] [(.int (0 : Int32)), (.int z201), (.int z202), (.int z203), (.int z204), (.int z205), (.int z206), (.int z207)] [(.int (0 : Int32)), (.int z301), (.int z302), (.int z303), (.int z304), (.int z305), (.int z306), (.int z307)] [(.int (0 : Int32)), (.int z401), (.int z402), (.int z403)] (0 : Int32) (4 : Int32) p9 p5 q0 0 64 p4.toInt rfl rfl (by decide) hV.e0 rfl (by decide) (by omega) h5 (by decide) (by omega)) (argsL := [(.int (0 : Int32)), (.int p9), (.int p5)]) (rest := []) rfl (ps := [.int, .int, .int]) (by decide +kernel) rfl rfl 0 rfl (by decide) (by decide) (by decide) (by decide) ?_
    rintro _ _ ⟨z636, rfl, rfl, hz636⟩
    show Go Bff4 Z a0 h0 _ 0 0 (M4 a1 a2 a3 a4 a5 a6 a7 q0 q1 q2 q3 z101 z201 z301 z102 z202 z302 z103 z203 z303 z104 z204 z304 z105 z205 z305 z106 z206 z306 z107 z207 z307 z401 z402 z403) 19 #[.val (.ref a1), .val (.int p4), .val (.int p5), .val (.int (0 : Int32)), .val (.int p9), .unset, .unset, .unset, .unset, .unset, .unset] [(.int z636)]
    refine go_istore #[.val (.ref a1), .val (.int p4), .val (.int p5), .val (.int (0 : Int32)), .val (.int p9), .val (.int z636), .unset, .unset, .unset, .unset, .unset] 21 rfl d14_19 rfl rfl ?_
    refine go_iload 23 rfl d14_21 rfl ?_
    refine go_if 31 26 rfl (by decide) rfl d14_23 rfl (fun (hc23_92 : 0 ≤ z636.toInt) => ?_) (fun (hc23_92 : ¬ (0 ≤ z636.toInt)) => ?_)
    · have g2 := hV.s4.l0; have g3 := hV.s4.l1
      refine go_aloadN 32 rfl d14_31 rfl rfl ?_
      refine go_get 0 4 35 rfl d14_32 rfl rfl rfl (wd hw 37 rfl) ?_
      refine go_aloadN 36 rfl d14_35 rfl rfl ?_
      refine go_get 0 0 39 rfl d14_36 rfl rfl rfl (wd hw 27 rfl) ?_
      refine go_iloadN 40 rfl d14_39 rfl ?_
      refine go_iadd 41 rfl d14_40 rfl ?_
      refine go_iaload 42 rfl d14_41 rfl (Mo.el (i := 4) rfl (by decide) rfl) ?_
      refine go_bipush (64 : Int32) 44 rfl d14_42 rfl ?_
      refine go_iload 46 rfl d14_44 rfl ?_
      refine go_isub 47 rfl d14_46 rfl ?_
      have fa13 : ((64 : Int32) - p9).toInt = (64 : Int) - p9.toInt := subE rfl rfl (by omega)
      refine go_callS 50 rfl d14_47 (wd hw 84 rfl) (wd hw 2 rfl) (wd hw 3 rfl) (wd hw 4 rfl) (by decide) (m_min Z a0 hw h0 (mem20 a1 a2 a3 a4 a5 a6 a7 q0 q1 q2 q3 z101 z102 z103 z104 z105 z106 z107 z201 z202 z203 z204 z205 z206 z207 z301 z302 z303 z304 z305 z306 z307 z401 z402 z403) z204 ((64 : Int32) - p9)) (argsL := [(.int z204), (.int ((64 : Int32) - p9))]) (rest := []) rfl (ps := [.int, .int]) (by decide +kernel) rfl rfl 0 rfl (by decide) (by decide) (by decide) (by decide) ?_
      rintro _ _ ⟨z9094, rfl, rfl, hz9094, gz9094⟩
      show Go Bff4 Z a0 h0 _ 0 0 (M4 a1 a2 a3 a4 a5 a6 a7 q0 q1 q2 q3 z101 z201 z301 z102 z202 z302 z103 z203 z303 z104 z204 z304 z105 z205 z305 z106 z206 z306 z107 z207 z307 z401 z402 z403) 50 #[.val (.ref a1), .val (.int p4), .val (.int p5), .val (.int (0 : Int32)), .val (.int p9), .val (.int z636), .unset, .unset, .unset, .unset, .unset] [(.int z9094)]
      have kz9094 : z9094.toInt = z204.toInt ∨ z9094.toInt = ((64 : Int32) - p9).toInt := by rcases gz9094 with h | h <;> rw [h] <;> simp
      refine go_istore #[.val (.ref a1), .val (.int p4), .val (.int p5), .val (.int (0 : Int32)), .val (.int p9), .val (.int z636), .val (.int z9094), .unset, .unset, .unset, .unset] 52 rfl d14_50 rfl rfl ?_
      refine go_aloadN 53 rfl d14_52 rfl rfl ?_
      refine go_get 0 0 56 rfl d14_53 rfl rfl rfl (wd hw 27 rfl) ?_
      refine go_iloadN 57 rfl d14_56 rfl ?_
      refine go_iadd 58 rfl d14_57 rfl ?_
      refine go_callS 61 rfl d14_58 (wd hw 85 rfl) (wd hw 86 rfl) (wd hw 10 rfl) (wd hw 87 rfl) (by decide) (Met.frame (M4 a1 a2 a3 a4 a5 a6 a7 q0 q1 q2 q3 z101 z201 z301 z102 z202 z302 z103 z203 z303 z104 z204 z304 z105 z205 z305 z106 z206 z306 z107 z207 z307 z401 z402 z403) (mt95 Z a0 hw h0)) (argsL := [(.int (4 : Int32))]) (rest := []) rfl (ps := [.int]) (by decide +kernel) rfl rfl 0 rfl (by decide) (by decide) (by decide) (by decide) ?_
      rintro _ _ ⟨_, ⟨rfl, rfl⟩, rfl⟩
      show Go Bff4 Z a0 h0 _ 0 0 (M4 a1 a2 a3 a4 a5 a6 a7 q0 q1 q2 q3 z101 z201 z301 z102 z202 z302 z103 z203 z303 z104 z204 z304 z105 z205 z305 z106 z206 z306 z107 z207 z307 z401 z402 z403) 61 #[.val (.ref a1), .val (.int p4), .val (.int p5), .val (.int (0 : Int32)), .val (.int p9), .val (.int z636), .val (.int z9094), .unset, .unset, .unset, .unset] [(.int (5 : Int32))]
      refine go_istore #[.val (.ref a1), .val (.int p4), .val (.int p5), .val (.int (0 : Int32)), .val (.int p9), .val (.int z636), .val (.int z9094), .val (.int (5 : Int32)), .unset, .unset, .unset] 63 rfl d14_61 rfl rfl ?_
      refine go_iload 65 rfl d14_63 rfl ?_
      refine go_if 233 68 rfl (by decide) rfl d14_65 rfl (fun (hc65 : 0 ≤ z636.toInt) => ?_) (fun (hc65 : ¬ (0 ≤ z636.toInt)) => absurd hc65 (by omega))
      refine go_iload 235 rfl d14_233 rfl ?_
      exact go_ireturn d14_235 rfl (Or.inl rfl) rfl rfl (by decide) (by decide) ⟨_, _, _, _, _, _, _, _, _, _, _, _, hV, _, first_yes h5.1 (by omega) hz636 (by omega), rfl, rfl⟩
    · have hz0 := sc_neg hz636 (by omega)
      obtain rfl : z636 = (-1 : Int32) := i32_of (k := -1) (by omega) rfl
      refine go_aloadN 27 rfl d14_26 rfl rfl ?_
      refine go_iconst (1 : Int32) 28 rfl d14_27 rfl ?_
      refine go_callP (host := "") 31 rfl d14_28 (Or.inl (wd hw 80 rfl)) (wd hw 81 rfl) (wd hw 82 rfl) (wd hw 9 rfl) (wd hw 10 rfl) (wd hw 83 rfl) (by decide) (Mo.exa (i := 0) rfl) (m_upd4_1 Z a0 hw h0 P a1 a2 a3 a4 a5 a6 a7 q0 q1 q2 q3 z101 z201 z301 z102 z202 z302 z103 z203 z303 z104 z204 z304 z105 z205 z305 z106 z206 z306 z107 z207 z307 z401 z402 z403 hV.s4 hV.s5 hV.s6 hV.s7 hV.k1 hV.k2 hV.k3) (argsL := [(.int (1 : Int32))]) (rest := []) rfl (ps := [.int]) (by decide +kernel) rfl rfl 0 rfl (by decide) (by decide) (by decide) (by decide) ?_
      rintro _ _ ⟨z637, z638, z639, z646, z640, z641, z642, z647, z643, z644, z645, z648, ⟨hz637, hz640, hz643⟩, rfl, rfl⟩
      show Go Bff4 Z a0 h0 _ 0 0 (M4 a1 a2 a3 a4 a5 a6 a7 q0 q1 q2 q3 z637 z638 z639 z640 z641 z642 z643 z644 z645 z104 z204 z304 z105 z205 z305 z106 z206 z306 z107 z207 z307 z646 z647 z648) 31 #[.val (.ref a1), .val (.int p4), .val (.int p5), .val (.int (0 : Int32)), .val (.int p9), .val (.int (-1 : Int32)), .unset, .unset, .unset, .unset, .unset] []
      have g2 := hV.s4.l0; have g3 := hV.s4.l1
      refine go_aloadN 32 rfl d14_31 rfl rfl ?_
      refine go_get 0 4 35 rfl d14_32 rfl rfl rfl (wd hw 37 rfl) ?_
      refine go_aloadN 36 rfl d14_35 rfl rfl ?_
      refine go_get 0 0 39 rfl d14_36 rfl rfl rfl (wd hw 27 rfl) ?_
      refine go_iloadN 40 rfl d14_39 rfl ?_
      refine go_iadd 41 rfl d14_40 rfl ?_
      refine go_iaload 42 rfl d14_41 rfl (Mo.el (i := 4) rfl (by decide) rfl) ?_
      refine go_bipush (64 : Int32) 44 rfl d14_42 rfl ?_
      refine go_iload 46 rfl d14_44 rfl ?_
      refine go_isub 47 rfl d14_46 rfl ?_
      have fa14 : ((64 : Int32) - p9).toInt = (64 : Int) - p9.toInt := subE rfl rfl (by omega)
      refine go_callS 50 rfl d14_47 (wd hw 84 rfl) (wd hw 2 rfl) (wd hw 3 rfl) (wd hw 4 rfl) (by decide) (m_min Z a0 hw h0 (mem20 a1 a2 a3 a4 a5 a6 a7 q0 q1 q2 q3 z637 z640 z643 z104 z105 z106 z107 z638 z641 z644 z204 z205 z206 z207 z639 z642 z645 z304 z305 z306 z307 z646 z647 z648) z204 ((64 : Int32) - p9)) (argsL := [(.int z204), (.int ((64 : Int32) - p9))]) (rest := []) rfl (ps := [.int, .int]) (by decide +kernel) rfl rfl 0 rfl (by decide) (by decide) (by decide) (by decide) ?_
      rintro _ _ ⟨z9096, rfl, rfl, hz9096, gz9096⟩
      show Go Bff4 Z a0 h0 _ 0 0 (M4 a1 a2 a3 a4 a5 a6 a7 q0 q1 q2 q3 z637 z638 z639 z640 z641 z642 z643 z644 z645 z104 z204 z304 z105 z205 z305 z106 z206 z306 z107 z207 z307 z646 z647 z648) 50 #[.val (.ref a1), .val (.int p4), .val (.int p5), .val (.int (0 : Int32)), .val (.int p9), .val (.int (-1 : Int32)), .unset, .unset, .unset, .unset, .unset] [(.int z9096)]
      have kz9096 : z9096.toInt = z204.toInt ∨ z9096.toInt = ((64 : Int32) - p9).toInt := by rcases gz9096 with h | h <;> rw [h] <;> simp
      refine go_istore #[.val (.ref a1), .val (.int p4), .val (.int p5), .val (.int (0 : Int32)), .val (.int p9), .val (.int (-1 : Int32)), .val (.int z9096), .unset, .unset, .unset, .unset] 52 rfl d14_50 rfl rfl ?_
      refine go_aloadN 53 rfl d14_52 rfl rfl ?_
      refine go_get 0 0 56 rfl d14_53 rfl rfl rfl (wd hw 27 rfl) ?_
      refine go_iloadN 57 rfl d14_56 rfl ?_
      refine go_iadd 58 rfl d14_57 rfl ?_
      refine go_callS 61 rfl d14_58 (wd hw 85 rfl) (wd hw 86 rfl) (wd hw 10 rfl) (wd hw 87 rfl) (by decide) (Met.frame (M4 a1 a2 a3 a4 a5 a6 a7 q0 q1 q2 q3 z637 z638 z639 z640 z641 z642 z643 z644 z645 z104 z204 z304 z105 z205 z305 z106 z206 z306 z107 z207 z307 z646 z647 z648) (mt95 Z a0 hw h0)) (argsL := [(.int (4 : Int32))]) (rest := []) rfl (ps := [.int]) (by decide +kernel) rfl rfl 0 rfl (by decide) (by decide) (by decide) (by decide) ?_
      rintro _ _ ⟨_, ⟨rfl, rfl⟩, rfl⟩
      show Go Bff4 Z a0 h0 _ 0 0 (M4 a1 a2 a3 a4 a5 a6 a7 q0 q1 q2 q3 z637 z638 z639 z640 z641 z642 z643 z644 z645 z104 z204 z304 z105 z205 z305 z106 z206 z306 z107 z207 z307 z646 z647 z648) 61 #[.val (.ref a1), .val (.int p4), .val (.int p5), .val (.int (0 : Int32)), .val (.int p9), .val (.int (-1 : Int32)), .val (.int z9096), .unset, .unset, .unset, .unset] [(.int (5 : Int32))]
      refine go_istore #[.val (.ref a1), .val (.int p4), .val (.int p5), .val (.int (0 : Int32)), .val (.int p9), .val (.int (-1 : Int32)), .val (.int z9096), .val (.int (5 : Int32)), .unset, .unset, .unset] 63 rfl d14_61 rfl rfl ?_
      exact lp4_5 Z a0 hw h0 P a1 a2 a3 a4 a5 a6 a7 q0 q1 q2 q3 z637 z638 z639 z640 z641 z642 z643 z644 z645 z104 z204 z304 z105 z205 z305 z106 z206 z306 z107 z207 z307 z646 z647 z648 p4 p5 z9096 (0 : Int32) p9 (.unset) (Or.inl rfl) (.unset) (Or.inl rfl) (.unset) (Or.inl rfl) h5 hF0 hV.e0 hV.e1 hV.e2 hV.e3 hz637 hz640 hz643 hV.s4 hV.s5 hV.s6 hV.s7 hC (first_no h5.1 (by omega) (by omega) (by omega) hV.s4 hz636 (by decide) (by omega) (by omega) (by omega))
  · rw [ec]
    refine go_istoreN #[.val (.ref a1), .val (.int p4), .val (.int p5), .val (.int (1 : Int32)), .unset, .unset, .unset, .unset, .unset, .unset, .unset] 5 rfl d14_4 rfl rfl ?_
    refine go_iloadN 6 rfl d14_5 rfl ?_
    refine go_bipush (64 : Int32) 8 rfl d14_6 rfl ?_
    refine go_irem 9 rfl d14_8 rfl (by decide) ?_
    have er := (c_irem p4 (64 : Int32) 64 rfl).1 (by omega)
    generalize p4 % (64 : Int32) = p9 at er ⊢
    refine go_istore #[.val (.ref a1), .val (.int p4), .val (.int p5), .val (.int (1 : Int32)), .val (.int p9), .unset, .unset, .unset, .unset, .unset, .unset] 11 rfl d14_9 rfl rfl ?_
    refine go_aloadN 12 rfl d14_11 rfl rfl ?_
    refine go_iloadN 13 rfl d14_12 rfl ?_
    refine go_iload 15 rfl d14_13 rfl ?_
    refine go_iloadN 16 rfl d14_15 rfl ?_
    refine go_callP (host := "") 19 rfl d14_16 (Or.inl (wd hw 76 rfl)) (wd hw 77 rfl) (wd hw 78 rfl) (wd hw 9 rfl) (wd hw 10 rfl) (wd hw 79 rfl) (by decide) (Mo.exa (i := 0) rfl) (m_scan Z a0 hw h0 P a1 a2 a3 a4 a5 a6 a7 [(.long q0), (.long q1), (.long q2), (.long q3)] [(.long (0 : Int64)), (.long (0 : Int64)), (.long (0 : Int64)), (.long (0 : Int64))] [(.int (0 : Int32)), (.int z101), (.int z102), (.int z103), (.int z104), (.int z105), (.int z106), (.int z107)] [(.int (0 : Int32)), (.int z201), (.int z202), (.int z203), (.int z204), (.int z205), (.int z206), (.int z207)] [(.int (0 : Int32)), (.int z301), (.int z302), (.int z303), (.int z304), (.int z305), (.int z306), (.int z307)] [(.int (0 : Int32)), (.int z401), (.int z402), (.int z403)] (1 : Int32) (4 : Int32) p9 p5 q1 1 128 p4.toInt rfl rfl (by decide) hV.e1 rfl (by decide) (by omega) h5 (by decide) (by omega)) (argsL := [(.int (1 : Int32)), (.int p9), (.int p5)]) (rest := []) rfl (ps := [.int, .int, .int]) (by decide +kernel) rfl rfl 0 rfl (by decide) (by decide) (by decide) (by decide) ?_
    rintro _ _ ⟨z649, rfl, rfl, hz649⟩
    show Go Bff4 Z a0 h0 _ 0 0 (M4 a1 a2 a3 a4 a5 a6 a7 q0 q1 q2 q3 z101 z201 z301 z102 z202 z302 z103 z203 z303 z104 z204 z304 z105 z205 z305 z106 z206 z306 z107 z207 z307 z401 z402 z403) 19 #[.val (.ref a1), .val (.int p4), .val (.int p5), .val (.int (1 : Int32)), .val (.int p9), .unset, .unset, .unset, .unset, .unset, .unset] [(.int z649)]
    refine go_istore #[.val (.ref a1), .val (.int p4), .val (.int p5), .val (.int (1 : Int32)), .val (.int p9), .val (.int z649), .unset, .unset, .unset, .unset, .unset] 21 rfl d14_19 rfl rfl ?_
    refine go_iload 23 rfl d14_21 rfl ?_
    refine go_if 31 26 rfl (by decide) rfl d14_23 rfl (fun (hc23_96 : 0 ≤ z649.toInt) => ?_) (fun (hc23_96 : ¬ (0 ≤ z649.toInt)) => ?_)
    · have g2 := hV.s5.l0; have g3 := hV.s5.l1
      refine go_aloadN 32 rfl d14_31 rfl rfl ?_
      refine go_get 0 4 35 rfl d14_32 rfl rfl rfl (wd hw 37 rfl) ?_
      refine go_aloadN 36 rfl d14_35 rfl rfl ?_
      refine go_get 0 0 39 rfl d14_36 rfl rfl rfl (wd hw 27 rfl) ?_
      refine go_iloadN 40 rfl d14_39 rfl ?_
      refine go_iadd 41 rfl d14_40 rfl ?_
      refine go_iaload 42 rfl d14_41 rfl (Mo.el (i := 4) rfl (by decide) rfl) ?_
      refine go_bipush (64 : Int32) 44 rfl d14_42 rfl ?_
      refine go_iload 46 rfl d14_44 rfl ?_
      refine go_isub 47 rfl d14_46 rfl ?_
      have fa15 : ((64 : Int32) - p9).toInt = (64 : Int) - p9.toInt := subE rfl rfl (by omega)
      refine go_callS 50 rfl d14_47 (wd hw 84 rfl) (wd hw 2 rfl) (wd hw 3 rfl) (wd hw 4 rfl) (by decide) (m_min Z a0 hw h0 (mem20 a1 a2 a3 a4 a5 a6 a7 q0 q1 q2 q3 z101 z102 z103 z104 z105 z106 z107 z201 z202 z203 z204 z205 z206 z207 z301 z302 z303 z304 z305 z306 z307 z401 z402 z403) z205 ((64 : Int32) - p9)) (argsL := [(.int z205), (.int ((64 : Int32) - p9))]) (rest := []) rfl (ps := [.int, .int]) (by decide +kernel) rfl rfl 0 rfl (by decide) (by decide) (by decide) (by decide) ?_
      rintro _ _ ⟨z9098, rfl, rfl, hz9098, gz9098⟩
      show Go Bff4 Z a0 h0 _ 0 0 (M4 a1 a2 a3 a4 a5 a6 a7 q0 q1 q2 q3 z101 z201 z301 z102 z202 z302 z103 z203 z303 z104 z204 z304 z105 z205 z305 z106 z206 z306 z107 z207 z307 z401 z402 z403) 50 #[.val (.ref a1), .val (.int p4), .val (.int p5), .val (.int (1 : Int32)), .val (.int p9), .val (.int z649), .unset, .unset, .unset, .unset, .unset] [(.int z9098)]
      have kz9098 : z9098.toInt = z205.toInt ∨ z9098.toInt = ((64 : Int32) - p9).toInt := by rcases gz9098 with h | h <;> rw [h] <;> simp
      refine go_istore #[.val (.ref a1), .val (.int p4), .val (.int p5), .val (.int (1 : Int32)), .val (.int p9), .val (.int z649), .val (.int z9098), .unset, .unset, .unset, .unset] 52 rfl d14_50 rfl rfl ?_
      refine go_aloadN 53 rfl d14_52 rfl rfl ?_
      refine go_get 0 0 56 rfl d14_53 rfl rfl rfl (wd hw 27 rfl) ?_
      refine go_iloadN 57 rfl d14_56 rfl ?_
      refine go_iadd 58 rfl d14_57 rfl ?_
      refine go_callS 61 rfl d14_58 (wd hw 85 rfl) (wd hw 86 rfl) (wd hw 10 rfl) (wd hw 87 rfl) (by decide) (Met.frame (M4 a1 a2 a3 a4 a5 a6 a7 q0 q1 q2 q3 z101 z201 z301 z102 z202 z302 z103 z203 z303 z104 z204 z304 z105 z205 z305 z106 z206 z306 z107 z207 z307 z401 z402 z403) (mt92 Z a0 hw h0)) (argsL := [(.int (5 : Int32))]) (rest := []) rfl (ps := [.int]) (by decide +kernel) rfl rfl 0 rfl (by decide) (by decide) (by decide) (by decide) ?_
      rintro _ _ ⟨_, ⟨rfl, rfl⟩, rfl⟩
      show Go Bff4 Z a0 h0 _ 0 0 (M4 a1 a2 a3 a4 a5 a6 a7 q0 q1 q2 q3 z101 z201 z301 z102 z202 z302 z103 z203 z303 z104 z204 z304 z105 z205 z305 z106 z206 z306 z107 z207 z307 z401 z402 z403) 61 #[.val (.ref a1), .val (.int p4), .val (.int p5), .val (.int (1 : Int32)), .val (.int p9), .val (.int z649), .val (.int z9098), .unset, .unset, .unset, .unset] [(.int (3 : Int32))]
      refine go_istore #[.val (.ref a1), .val (.int p4), .val (.int p5), .val (.int (1 : Int32)), .val (.int p9), .val (.int z649), .val (.int z9098), .val (.int (3 : Int32)), .unset, .unset, .unset] 63 rfl d14_61 rfl rfl ?_
      refine go_iload 65 rfl d14_63 rfl ?_
      refine go_if 233 68 rfl (by decide) rfl d14_65 rfl (fun (hc65 : 0 ≤ z649.toInt) => ?_) (fun (hc65 : ¬ (0 ≤ z649.toInt)) => absurd hc65 (by omega))
      refine go_iload 235 rfl d14_233 rfl ?_
      exact go_ireturn d14_235 rfl (Or.inl rfl) rfl rfl (by decide) (by decide) ⟨_, _, _, _, _, _, _, _, _, _, _, _, hV, _, first_yes h5.1 (by omega) hz649 (by omega), rfl, rfl⟩
    · have hz0 := sc_neg hz649 (by omega)
      obtain rfl : z649 = (-1 : Int32) := i32_of (k := -1) (by omega) rfl
      refine go_aloadN 27 rfl d14_26 rfl rfl ?_
      refine go_iconst (1 : Int32) 28 rfl d14_27 rfl ?_
      refine go_callP (host := "") 31 rfl d14_28 (Or.inl (wd hw 80 rfl)) (wd hw 81 rfl) (wd hw 82 rfl) (wd hw 9 rfl) (wd hw 10 rfl) (wd hw 83 rfl) (by decide) (Mo.exa (i := 0) rfl) (m_upd4_1 Z a0 hw h0 P a1 a2 a3 a4 a5 a6 a7 q0 q1 q2 q3 z101 z201 z301 z102 z202 z302 z103 z203 z303 z104 z204 z304 z105 z205 z305 z106 z206 z306 z107 z207 z307 z401 z402 z403 hV.s4 hV.s5 hV.s6 hV.s7 hV.k1 hV.k2 hV.k3) (argsL := [(.int (1 : Int32))]) (rest := []) rfl (ps := [.int]) (by decide +kernel) rfl rfl 0 rfl (by decide) (by decide) (by decide) (by decide) ?_
      rintro _ _ ⟨z650, z651, z652, z659, z653, z654, z655, z660, z656, z657, z658, z661, ⟨hz650, hz653, hz656⟩, rfl, rfl⟩
      show Go Bff4 Z a0 h0 _ 0 0 (M4 a1 a2 a3 a4 a5 a6 a7 q0 q1 q2 q3 z650 z651 z652 z653 z654 z655 z656 z657 z658 z104 z204 z304 z105 z205 z305 z106 z206 z306 z107 z207 z307 z659 z660 z661) 31 #[.val (.ref a1), .val (.int p4), .val (.int p5), .val (.int (1 : Int32)), .val (.int p9), .val (.int (-1 : Int32)), .unset, .unset, .unset, .unset, .unset] []
      have g2 := hV.s5.l0; have g3 := hV.s5.l1
      refine go_aloadN 32 rfl d14_31 rfl rfl ?_
      refine go_get 0 4 35 rfl d14_32 rfl rfl rfl (wd hw 37 rfl) ?_
      refine go_aloadN 36 rfl d14_35 rfl rfl ?_
      refine go_get 0 0 39 rfl d14_36 rfl rfl rfl (wd hw 27 rfl) ?_
      refine go_iloadN 40 rfl d14_39 rfl ?_
      refine go_iadd 41 rfl d14_40 rfl ?_
      refine go_iaload 42 rfl d14_41 rfl (Mo.el (i := 4) rfl (by decide) rfl) ?_
      refine go_bipush (64 : Int32) 44 rfl d14_42 rfl ?_
      refine go_iload 46 rfl d14_44 rfl ?_
      refine go_isub 47 rfl d14_46 rfl ?_
      have fa16 : ((64 : Int32) - p9).toInt = (64 : Int) - p9.toInt := subE rfl rfl (by omega)
      refine go_callS 50 rfl d14_47 (wd hw 84 rfl) (wd hw 2 rfl) (wd hw 3 rfl) (wd hw 4 rfl) (by decide) (m_min Z a0 hw h0 (mem20 a1 a2 a3 a4 a5 a6 a7 q0 q1 q2 q3 z650 z653 z656 z104 z105 z106 z107 z651 z654 z657 z204 z205 z206 z207 z652 z655 z658 z304 z305 z306 z307 z659 z660 z661) z205 ((64 : Int32) - p9)) (argsL := [(.int z205), (.int ((64 : Int32) - p9))]) (rest := []) rfl (ps := [.int, .int]) (by decide +kernel) rfl rfl 0 rfl (by decide) (by decide) (by decide) (by decide) ?_
      rintro _ _ ⟨z9099, rfl, rfl, hz9099, gz9099⟩
      show Go Bff4 Z a0 h0 _ 0 0 (M4 a1 a2 a3 a4 a5 a6 a7 q0 q1 q2 q3 z650 z651 z652 z653 z654 z655 z656 z657 z658 z104 z204 z304 z105 z205 z305 z106 z206 z306 z107 z207 z307 z659 z660 z661) 50 #[.val (.ref a1), .val (.int p4), .val (.int p5), .val (.int (1 : Int32)), .val (.int p9), .val (.int (-1 : Int32)), .unset, .unset, .unset, .unset, .unset] [(.int z9099)]
      have kz9099 : z9099.toInt = z205.toInt ∨ z9099.toInt = ((64 : Int32) - p9).toInt := by rcases gz9099 with h | h <;> rw [h] <;> simp
      refine go_istore #[.val (.ref a1), .val (.int p4), .val (.int p5), .val (.int (1 : Int32)), .val (.int p9), .val (.int (-1 : Int32)), .val (.int z9099), .unset, .unset, .unset, .unset] 52 rfl d14_50 rfl rfl ?_
      refine go_aloadN 53 rfl d14_52 rfl rfl ?_
      refine go_get 0 0 56 rfl d14_53 rfl rfl rfl (wd hw 27 rfl) ?_
      refine go_iloadN 57 rfl d14_56 rfl ?_
      refine go_iadd 58 rfl d14_57 rfl ?_
      refine go_callS 61 rfl d14_58 (wd hw 85 rfl) (wd hw 86 rfl) (wd hw 10 rfl) (wd hw 87 rfl) (by decide) (Met.frame (M4 a1 a2 a3 a4 a5 a6 a7 q0 q1 q2 q3 z650 z651 z652 z653 z654 z655 z656 z657 z658 z104 z204 z304 z105 z205 z305 z106 z206 z306 z107 z207 z307 z659 z660 z661) (mt92 Z a0 hw h0)) (argsL := [(.int (5 : Int32))]) (rest := []) rfl (ps := [.int]) (by decide +kernel) rfl rfl 0 rfl (by decide) (by decide) (by decide) (by decide) ?_
      rintro _ _ ⟨_, ⟨rfl, rfl⟩, rfl⟩
      show Go Bff4 Z a0 h0 _ 0 0 (M4 a1 a2 a3 a4 a5 a6 a7 q0 q1 q2 q3 z650 z651 z652 z653 z654 z655 z656 z657 z658 z104 z204 z304 z105 z205 z305 z106 z206 z306 z107 z207 z307 z659 z660 z661) 61 #[.val (.ref a1), .val (.int p4), .val (.int p5), .val (.int (1 : Int32)), .val (.int p9), .val (.int (-1 : Int32)), .val (.int z9099), .unset, .unset, .unset, .unset] [(.int (3 : Int32))]
      refine go_istore #[.val (.ref a1), .val (.int p4), .val (.int p5), .val (.int (1 : Int32)), .val (.int p9), .val (.int (-1 : Int32)), .val (.int z9099), .val (.int (3 : Int32)), .unset, .unset, .unset] 63 rfl d14_61 rfl rfl ?_
      exact lp4_3 Z a0 hw h0 P a1 a2 a3 a4 a5 a6 a7 q0 q1 q2 q3 z650 z651 z652 z653 z654 z655 z656 z657 z658 z104 z204 z304 z105 z205 z305 z106 z206 z306 z107 z207 z307 z659 z660 z661 p4 p5 z9099 (1 : Int32) p9 (.unset) (Or.inl rfl) (.unset) (Or.inl rfl) (.unset) (Or.inl rfl) h5 hF0 hV.e0 hV.e1 hV.e2 hV.e3 hz650 hz653 hz656 hV.s4 hV.s5 hV.s6 hV.s7 hC (first_no h5.1 (by omega) (by omega) (by omega) hV.s5 hz649 (by decide) (by omega) (by omega) (by omega))
  · rw [ec]
    refine go_istoreN #[.val (.ref a1), .val (.int p4), .val (.int p5), .val (.int (2 : Int32)), .unset, .unset, .unset, .unset, .unset, .unset, .unset] 5 rfl d14_4 rfl rfl ?_
    refine go_iloadN 6 rfl d14_5 rfl ?_
    refine go_bipush (64 : Int32) 8 rfl d14_6 rfl ?_
    refine go_irem 9 rfl d14_8 rfl (by decide) ?_
    have er := (c_irem p4 (64 : Int32) 64 rfl).1 (by omega)
    generalize p4 % (64 : Int32) = p9 at er ⊢
    refine go_istore #[.val (.ref a1), .val (.int p4), .val (.int p5), .val (.int (2 : Int32)), .val (.int p9), .unset, .unset, .unset, .unset, .unset, .unset] 11 rfl d14_9 rfl rfl ?_
    refine go_aloadN 12 rfl d14_11 rfl rfl ?_
    refine go_iloadN 13 rfl d14_12 rfl ?_
    refine go_iload 15 rfl d14_13 rfl ?_
    refine go_iloadN 16 rfl d14_15 rfl ?_
    refine go_callP (host := "") 19 rfl d14_16 (Or.inl (wd hw 76 rfl)) (wd hw 77 rfl) (wd hw 78 rfl) (wd hw 9 rfl) (wd hw 10 rfl) (wd hw 79 rfl) (by decide) (Mo.exa (i := 0) rfl) (m_scan Z a0 hw h0 P a1 a2 a3 a4 a5 a6 a7 [(.long q0), (.long q1), (.long q2), (.long q3)] [(.long (0 : Int64)), (.long (0 : Int64)), (.long (0 : Int64)), (.long (0 : Int64))] [(.int (0 : Int32)), (.int z101), (.int z102), (.int z103), (.int z104), (.int z105), (.int z106), (.int z107)] [(.int (0 : Int32)), (.int z201), (.int z202), (.int z203), (.int z204), (.int z205), (.int z206), (.int z207)] [(.int (0 : Int32)), (.int z301), (.int z302), (.int z303), (.int z304), (.int z305), (.int z306), (.int z307)] [(.int (0 : Int32)), (.int z401), (.int z402), (.int z403)] (2 : Int32) (4 : Int32) p9 p5 q2 2 192 p4.toInt rfl rfl (by decide) hV.e2 rfl (by decide) (by omega) h5 (by decide) (by omega)) (argsL := [(.int (2 : Int32)), (.int p9), (.int p5)]) (rest := []) rfl (ps := [.int, .int, .int]) (by decide +kernel) rfl rfl 0 rfl (by decide) (by decide) (by decide) (by decide) ?_
    rintro _ _ ⟨z662, rfl, rfl, hz662⟩
    show Go Bff4 Z a0 h0 _ 0 0 (M4 a1 a2 a3 a4 a5 a6 a7 q0 q1 q2 q3 z101 z201 z301 z102 z202 z302 z103 z203 z303 z104 z204 z304 z105 z205 z305 z106 z206 z306 z107 z207 z307 z401 z402 z403) 19 #[.val (.ref a1), .val (.int p4), .val (.int p5), .val (.int (2 : Int32)), .val (.int p9), .unset, .unset, .unset, .unset, .unset, .unset] [(.int z662)]
    refine go_istore #[.val (.ref a1), .val (.int p4), .val (.int p5), .val (.int (2 : Int32)), .val (.int p9), .val (.int z662), .unset, .unset, .unset, .unset, .unset] 21 rfl d14_19 rfl rfl ?_
    refine go_iload 23 rfl d14_21 rfl ?_
    refine go_if 31 26 rfl (by decide) rfl d14_23 rfl (fun (hc23_99 : 0 ≤ z662.toInt) => ?_) (fun (hc23_99 : ¬ (0 ≤ z662.toInt)) => ?_)
    · have g2 := hV.s6.l0; have g3 := hV.s6.l1
      refine go_aloadN 32 rfl d14_31 rfl rfl ?_
      refine go_get 0 4 35 rfl d14_32 rfl rfl rfl (wd hw 37 rfl) ?_
      refine go_aloadN 36 rfl d14_35 rfl rfl ?_
      refine go_get 0 0 39 rfl d14_36 rfl rfl rfl (wd hw 27 rfl) ?_
      refine go_iloadN 40 rfl d14_39 rfl ?_
      refine go_iadd 41 rfl d14_40 rfl ?_
      refine go_iaload 42 rfl d14_41 rfl (Mo.el (i := 4) rfl (by decide) rfl) ?_
      refine go_bipush (64 : Int32) 44 rfl d14_42 rfl ?_
      refine go_iload 46 rfl d14_44 rfl ?_
      refine go_isub 47 rfl d14_46 rfl ?_
      have fa17 : ((64 : Int32) - p9).toInt = (64 : Int) - p9.toInt := subE rfl rfl (by omega)
      refine go_callS 50 rfl d14_47 (wd hw 84 rfl) (wd hw 2 rfl) (wd hw 3 rfl) (wd hw 4 rfl) (by decide) (m_min Z a0 hw h0 (mem20 a1 a2 a3 a4 a5 a6 a7 q0 q1 q2 q3 z101 z102 z103 z104 z105 z106 z107 z201 z202 z203 z204 z205 z206 z207 z301 z302 z303 z304 z305 z306 z307 z401 z402 z403) z206 ((64 : Int32) - p9)) (argsL := [(.int z206), (.int ((64 : Int32) - p9))]) (rest := []) rfl (ps := [.int, .int]) (by decide +kernel) rfl rfl 0 rfl (by decide) (by decide) (by decide) (by decide) ?_
      rintro _ _ ⟨z9101, rfl, rfl, hz9101, gz9101⟩
      show Go Bff4 Z a0 h0 _ 0 0 (M4 a1 a2 a3 a4 a5 a6 a7 q0 q1 q2 q3 z101 z201 z301 z102 z202 z302 z103 z203 z303 z104 z204 z304 z105 z205 z305 z106 z206 z306 z107 z207 z307 z401 z402 z403) 50 #[.val (.ref a1), .val (.int p4), .val (.int p5), .val (.int (2 : Int32)), .val (.int p9), .val (.int z662), .unset, .unset, .unset, .unset, .unset] [(.int z9101)]
      have kz9101 : z9101.toInt = z206.toInt ∨ z9101.toInt = ((64 : Int32) - p9).toInt := by rcases gz9101 with h | h <;> rw [h] <;> simp
      refine go_istore #[.val (.ref a1), .val (.int p4), .val (.int p5), .val (.int (2 : Int32)), .val (.int p9), .val (.int z662), .val (.int z9101), .unset, .unset, .unset, .unset] 52 rfl d14_50 rfl rfl ?_
      refine go_aloadN 53 rfl d14_52 rfl rfl ?_
      refine go_get 0 0 56 rfl d14_53 rfl rfl rfl (wd hw 27 rfl) ?_
      refine go_iloadN 57 rfl d14_56 rfl ?_
      refine go_iadd 58 rfl d14_57 rfl ?_
      refine go_callS 61 rfl d14_58 (wd hw 85 rfl) (wd hw 86 rfl) (wd hw 10 rfl) (wd hw 87 rfl) (by decide) (Met.frame (M4 a1 a2 a3 a4 a5 a6 a7 q0 q1 q2 q3 z101 z201 z301 z102 z202 z302 z103 z203 z303 z104 z204 z304 z105 z205 z305 z106 z206 z306 z107 z207 z307 z401 z402 z403) (mt85 Z a0 hw h0)) (argsL := [(.int (6 : Int32))]) (rest := []) rfl (ps := [.int]) (by decide +kernel) rfl rfl 0 rfl (by decide) (by decide) (by decide) (by decide) ?_
      rintro _ _ ⟨_, ⟨rfl, rfl⟩, rfl⟩
      show Go Bff4 Z a0 h0 _ 0 0 (M4 a1 a2 a3 a4 a5 a6 a7 q0 q1 q2 q3 z101 z201 z301 z102 z202 z302 z103 z203 z303 z104 z204 z304 z105 z205 z305 z106 z206 z306 z107 z207 z307 z401 z402 z403) 61 #[.val (.ref a1), .val (.int p4), .val (.int p5), .val (.int (2 : Int32)), .val (.int p9), .val (.int z662), .val (.int z9101), .unset, .unset, .unset, .unset] [(.int (7 : Int32))]
      refine go_istore #[.val (.ref a1), .val (.int p4), .val (.int p5), .val (.int (2 : Int32)), .val (.int p9), .val (.int z662), .val (.int z9101), .val (.int (7 : Int32)), .unset, .unset, .unset] 63 rfl d14_61 rfl rfl ?_
      refine go_iload 65 rfl d14_63 rfl ?_
      refine go_if 233 68 rfl (by decide) rfl d14_65 rfl (fun (hc65 : 0 ≤ z662.toInt) => ?_) (fun (hc65 : ¬ (0 ≤ z662.toInt)) => absurd hc65 (by omega))
      refine go_iload 235 rfl d14_233 rfl ?_
      exact go_ireturn d14_235 rfl (Or.inl rfl) rfl rfl (by decide) (by decide) ⟨_, _, _, _, _, _, _, _, _, _, _, _, hV, _, first_yes h5.1 (by omega) hz662 (by omega), rfl, rfl⟩
    · have hz0 := sc_neg hz662 (by omega)
      obtain rfl : z662 = (-1 : Int32) := i32_of (k := -1) (by omega) rfl
      refine go_aloadN 27 rfl d14_26 rfl rfl ?_
      refine go_iconst (1 : Int32) 28 rfl d14_27 rfl ?_
      refine go_callP (host := "") 31 rfl d14_28 (Or.inl (wd hw 80 rfl)) (wd hw 81 rfl) (wd hw 82 rfl) (wd hw 9 rfl) (wd hw 10 rfl) (wd hw 83 rfl) (by decide) (Mo.exa (i := 0) rfl) (m_upd4_1 Z a0 hw h0 P a1 a2 a3 a4 a5 a6 a7 q0 q1 q2 q3 z101 z201 z301 z102 z202 z302 z103 z203 z303 z104 z204 z304 z105 z205 z305 z106 z206 z306 z107 z207 z307 z401 z402 z403 hV.s4 hV.s5 hV.s6 hV.s7 hV.k1 hV.k2 hV.k3) (argsL := [(.int (1 : Int32))]) (rest := []) rfl (ps := [.int]) (by decide +kernel) rfl rfl 0 rfl (by decide) (by decide) (by decide) (by decide) ?_
      rintro _ _ ⟨z663, z664, z665, z672, z666, z667, z668, z673, z669, z670, z671, z674, ⟨hz663, hz666, hz669⟩, rfl, rfl⟩
      show Go Bff4 Z a0 h0 _ 0 0 (M4 a1 a2 a3 a4 a5 a6 a7 q0 q1 q2 q3 z663 z664 z665 z666 z667 z668 z669 z670 z671 z104 z204 z304 z105 z205 z305 z106 z206 z306 z107 z207 z307 z672 z673 z674) 31 #[.val (.ref a1), .val (.int p4), .val (.int p5), .val (.int (2 : Int32)), .val (.int p9), .val (.int (-1 : Int32)), .unset, .unset, .unset, .unset, .unset] []
      have g2 := hV.s6.l0; have g3 := hV.s6.l1
      refine go_aloadN 32 rfl d14_31 rfl rfl ?_
      refine go_get 0 4 35 rfl d14_32 rfl rfl rfl (wd hw 37 rfl) ?_
      refine go_aloadN 36 rfl d14_35 rfl rfl ?_
      refine go_get 0 0 39 rfl d14_36 rfl rfl rfl (wd hw 27 rfl) ?_
      refine go_iloadN 40 rfl d14_39 rfl ?_
      refine go_iadd 41 rfl d14_40 rfl ?_
      refine go_iaload 42 rfl d14_41 rfl (Mo.el (i := 4) rfl (by decide) rfl) ?_
      refine go_bipush (64 : Int32) 44 rfl d14_42 rfl ?_
      refine go_iload 46 rfl d14_44 rfl ?_
      refine go_isub 47 rfl d14_46 rfl ?_
      have fa18 : ((64 : Int32) - p9).toInt = (64 : Int) - p9.toInt := subE rfl rfl (by omega)
      refine go_callS 50 rfl d14_47 (wd hw 84 rfl) (wd hw 2 rfl) (wd hw 3 rfl) (wd hw 4 rfl) (by decide) (m_min Z a0 hw h0 (mem20 a1 a2 a3 a4 a5 a6 a7 q0 q1 q2 q3 z663 z666 z669 z104 z105 z106 z107 z664 z667 z670 z204 z205 z206 z207 z665 z668 z671 z304 z305 z306 z307 z672 z673 z674) z206 ((64 : Int32) - p9)) (argsL := [(.int z206), (.int ((64 : Int32) - p9))]) (rest := []) rfl (ps := [.int, .int]) (by decide +kernel) rfl rfl 0 rfl (by decide) (by decide) (by decide) (by decide) ?_
      rintro _ _ ⟨z9102, rfl, rfl, hz9102, gz9102⟩
      show Go Bff4 Z a0 h0 _ 0 0 (M4 a1 a2 a3 a4 a5 a6 a7 q0 q1 q2 q3 z663 z664 z665 z666 z667 z668 z669 z670 z671 z104 z204 z304 z105 z205 z305 z106 z206 z306 z107 z207 z307 z672 z673 z674) 50 #[.val (.ref a1), .val (.int p4), .val (.int p5), .val (.int (2 : Int32)), .val (.int p9), .val (.int (-1 : Int32)), .unset, .unset, .unset, .unset, .unset] [(.int z9102)]
      have kz9102 : z9102.toInt = z206.toInt ∨ z9102.toInt = ((64 : Int32) - p9).toInt := by rcases gz9102 with h | h <;> rw [h] <;> simp
      refine go_istore #[.val (.ref a1), .val (.int p4), .val (.int p5), .val (.int (2 : Int32)), .val (.int p9), .val (.int (-1 : Int32)), .val (.int z9102), .unset, .unset, .unset, .unset] 52 rfl d14_50 rfl rfl ?_
      refine go_aloadN 53 rfl d14_52 rfl rfl ?_
      refine go_get 0 0 56 rfl d14_53 rfl rfl rfl (wd hw 27 rfl) ?_
      refine go_iloadN 57 rfl d14_56 rfl ?_
      refine go_iadd 58 rfl d14_57 rfl ?_
      refine go_callS 61 rfl d14_58 (wd hw 85 rfl) (wd hw 86 rfl) (wd hw 10 rfl) (wd hw 87 rfl) (by decide) (Met.frame (M4 a1 a2 a3 a4 a5 a6 a7 q0 q1 q2 q3 z663 z664 z665 z666 z667 z668 z669 z670 z671 z104 z204 z304 z105 z205 z305 z106 z206 z306 z107 z207 z307 z672 z673 z674) (mt85 Z a0 hw h0)) (argsL := [(.int (6 : Int32))]) (rest := []) rfl (ps := [.int]) (by decide +kernel) rfl rfl 0 rfl (by decide) (by decide) (by decide) (by decide) ?_
      rintro _ _ ⟨_, ⟨rfl, rfl⟩, rfl⟩
      show Go Bff4 Z a0 h0 _ 0 0 (M4 a1 a2 a3 a4 a5 a6 a7 q0 q1 q2 q3 z663 z664 z665 z666 z667 z668 z669 z670 z671 z104 z204 z304 z105 z205 z305 z106 z206 z306 z107 z207 z307 z672 z673 z674) 61 #[.val (.ref a1), .val (.int p4), .val (.int p5), .val (.int (2 : Int32)), .val (.int p9), .val (.int (-1 : Int32)), .val (.int z9102), .unset, .unset, .unset, .unset] [(.int (7 : Int32))]
      refine go_istore #[.val (.ref a1), .val (.int p4), .val (.int p5), .val (.int (2 : Int32)), .val (.int p9), .val (.int (-1 : Int32)), .val (.int z9102), .val (.int (7 : Int32)), .unset, .unset, .unset] 63 rfl d14_61 rfl rfl ?_
      exact lp4_7 Z a0 hw h0 P a1 a2 a3 a4 a5 a6 a7 q0 q1 q2 q3 z663 z664 z665 z666 z667 z668 z669 z670 z671 z104 z204 z304 z105 z205 z305 z106 z206 z306 z107 z207 z307 z672 z673 z674 p4 p5 z9102 (2 : Int32) p9 (.unset) (Or.inl rfl) (.unset) (Or.inl rfl) (.unset) (Or.inl rfl) h5 hF0 hV.e0 hV.e1 hV.e2 hV.e3 hz663 hz666 hz669 hV.s4 hV.s5 hV.s6 hV.s7 hC (first_no h5.1 (by omega) (by omega) (by omega) hV.s6 hz662 (by decide) (by omega) (by omega) (by omega))
  · rw [ec]
    refine go_istoreN #[.val (.ref a1), .val (.int p4), .val (.int p5), .val (.int (3 : Int32)), .unset, .unset, .unset, .unset, .unset, .unset, .unset] 5 rfl d14_4 rfl rfl ?_
    refine go_iloadN 6 rfl d14_5 rfl ?_
    refine go_bipush (64 : Int32) 8 rfl d14_6 rfl ?_
    refine go_irem 9 rfl d14_8 rfl (by decide) ?_
    have er := (c_irem p4 (64 : Int32) 64 rfl).1 (by omega)
    generalize p4 % (64 : Int32) = p9 at er ⊢
    refine go_istore #[.val (.ref a1), .val (.int p4), .val (.int p5), .val (.int (3 : Int32)), .val (.int p9), .unset, .unset, .unset, .unset, .unset, .unset] 11 rfl d14_9 rfl rfl ?_
    refine go_aloadN 12 rfl d14_11 rfl rfl ?_
    refine go_iloadN 13 rfl d14_12 rfl ?_
    refine go_iload 15 rfl d14_13 rfl ?_
    refine go_iloadN 16 rfl d14_15 rfl ?_
    refine go_callP (host := "") 19 rfl d14_16 (Or.inl (wd hw 76 rfl)) (wd hw 77 rfl) (wd hw 78 rfl) (wd hw 9 rfl) (wd hw 10 rfl) (wd hw 79 rfl) (by decide) (Mo.exa (i := 0) rfl) (m_scan Z a0 hw h0 P a1 a2 a3 a4 a5 a6 a7 [(.long q0), (.long q1), (.long q2), (.long q3)] [(.long (0 : Int64)), (.long (0 : Int64)), (.long (0 : Int64)), (.long (0 : Int64))] [(.int (0 : Int32)), (.int z101), (.int z102), (.int z103), (.int z104), (.int z105), (.int z106), (.int z107)] [(.int (0 : Int32)), (.int z201), (.int z202), (.int z203), (.int z204), (.int z205), (.int z206), (.int z207)] [(.int (0 : Int32)), (.int z301), (.int z302), (.int z303), (.int z304), (.int z305), (.int z306), (.int z307)] [(.int (0 : Int32)), (.int z401), (.int z402), (.int z403)] (3 : Int32) (4 : Int32) p9 p5 q3 3 256 p4.toInt rfl rfl (by decide) hV.e3 rfl (by decide) (by omega) h5 (by decide) (by omega)) (argsL := [(.int (3 : Int32)), (.int p9), (.int p5)]) (rest := []) rfl (ps := [.int, .int, .int]) (by decide +kernel) rfl rfl 0 rfl (by decide) (by decide) (by decide) (by decide) ?_
    rintro _ _ ⟨z675, rfl, rfl, hz675⟩
    show Go Bff4 Z a0 h0 _ 0 0 (M4 a1 a2 a3 a4 a5 a6 a7 q0 q1 q2 q3 z101 z201 z301 z102 z202 z302 z103 z203 z303 z104 z204 z304 z105 z205 z305 z106 z206 z306 z107 z207 z307 z401 z402 z403) 19 #[.val (.ref a1), .val (.int p4), .val (.int p5), .val (.int (3 : Int32)), .val (.int p9), .unset, .unset, .unset, .unset, .unset, .unset] [(.int z675)]
    refine go_istore #[.val (.ref a1), .val (.int p4), .val (.int p5), .val (.int (3 : Int32)), .val (.int p9), .val (.int z675), .unset, .unset, .unset, .unset, .unset] 21 rfl d14_19 rfl rfl ?_
    refine go_iload 23 rfl d14_21 rfl ?_
    refine go_if 31 26 rfl (by decide) rfl d14_23 rfl (fun (hc23_102 : 0 ≤ z675.toInt) => ?_) (fun (hc23_102 : ¬ (0 ≤ z675.toInt)) => ?_)
    · have g2 := hV.s7.l0; have g3 := hV.s7.l1
      refine go_aloadN 32 rfl d14_31 rfl rfl ?_
      refine go_get 0 4 35 rfl d14_32 rfl rfl rfl (wd hw 37 rfl) ?_
      refine go_aloadN 36 rfl d14_35 rfl rfl ?_
      refine go_get 0 0 39 rfl d14_36 rfl rfl rfl (wd hw 27 rfl) ?_
      refine go_iloadN 40 rfl d14_39 rfl ?_
      refine go_iadd 41 rfl d14_40 rfl ?_
      refine go_iaload 42 rfl d14_41 rfl (Mo.el (i := 4) rfl (by decide) rfl) ?_
      refine go_bipush (64 : Int32) 44 rfl d14_42 rfl ?_
      refine go_iload 46 rfl d14_44 rfl ?_
      refine go_isub 47 rfl d14_46 rfl ?_
      have fa19 : ((64 : Int32) - p9).toInt = (64 : Int) - p9.toInt := subE rfl rfl (by omega)
      refine go_callS 50 rfl d14_47 (wd hw 84 rfl) (wd hw 2 rfl) (wd hw 3 rfl) (wd hw 4 rfl) (by decide) (m_min Z a0 hw h0 (mem20 a1 a2 a3 a4 a5 a6 a7 q0 q1 q2 q3 z101 z102 z103 z104 z105 z106 z107 z201 z202 z203 z204 z205 z206 z207 z301 z302 z303 z304 z305 z306 z307 z401 z402 z403) z207 ((64 : Int32) - p9)) (argsL := [(.int z207), (.int ((64 : Int32) - p9))]) (rest := []) rfl (ps := [.int, .int]) (by decide +kernel) rfl rfl 0 rfl (by decide) (by decide) (by decide) (by decide) ?_
      rintro _ _ ⟨z9104, rfl, rfl, hz9104, gz9104⟩
      show Go Bff4 Z a0 h0 _ 0 0 (M4 a1 a2 a3 a4 a5 a6 a7 q0 q1 q2 q3 z101 z201 z301 z102 z202 z302 z103 z203 z303 z104 z204 z304 z105 z205 z305 z106 z206 z306 z107 z207 z307 z401 z402 z403) 50 #[.val (.ref a1), .val (.int p4), .val (.int p5), .val (.int (3 : Int32)), .val (.int p9), .val (.int z675), .unset, .unset, .unset, .unset, .unset] [(.int z9104)]
      have kz9104 : z9104.toInt = z207.toInt ∨ z9104.toInt = ((64 : Int32) - p9).toInt := by rcases gz9104 with h | h <;> rw [h] <;> simp
      refine go_istore #[.val (.ref a1), .val (.int p4), .val (.int p5), .val (.int (3 : Int32)), .val (.int p9), .val (.int z675), .val (.int z9104), .unset, .unset, .unset, .unset] 52 rfl d14_50 rfl rfl ?_
      refine go_aloadN 53 rfl d14_52 rfl rfl ?_
      refine go_get 0 0 56 rfl d14_53 rfl rfl rfl (wd hw 27 rfl) ?_
      refine go_iloadN 57 rfl d14_56 rfl ?_
      refine go_iadd 58 rfl d14_57 rfl ?_
      refine go_callS 61 rfl d14_58 (wd hw 85 rfl) (wd hw 86 rfl) (wd hw 10 rfl) (wd hw 87 rfl) (by decide) (Met.frame (M4 a1 a2 a3 a4 a5 a6 a7 q0 q1 q2 q3 z101 z201 z301 z102 z202 z302 z103 z203 z303 z104 z204 z304 z105 z205 z305 z106 z206 z306 z107 z207 z307 z401 z402 z403) (mt81 Z a0 hw h0)) (argsL := [(.int (7 : Int32))]) (rest := []) rfl (ps := [.int]) (by decide +kernel) rfl rfl 0 rfl (by decide) (by decide) (by decide) (by decide) ?_
      rintro _ _ ⟨_, ⟨rfl, rfl⟩, rfl⟩
      show Go Bff4 Z a0 h0 _ 0 0 (M4 a1 a2 a3 a4 a5 a6 a7 q0 q1 q2 q3 z101 z201 z301 z102 z202 z302 z103 z203 z303 z104 z204 z304 z105 z205 z305 z106 z206 z306 z107 z207 z307 z401 z402 z403) 61 #[.val (.ref a1), .val (.int p4), .val (.int p5), .val (.int (3 : Int32)), .val (.int p9), .val (.int z675), .val (.int z9104), .unset, .unset, .unset, .unset] [(.int (0 : Int32))]
      refine go_istore #[.val (.ref a1), .val (.int p4), .val (.int p5), .val (.int (3 : Int32)), .val (.int p9), .val (.int z675), .val (.int z9104), .val (.int (0 : Int32)), .unset, .unset, .unset] 63 rfl d14_61 rfl rfl ?_
      refine go_iload 65 rfl d14_63 rfl ?_
      refine go_if 233 68 rfl (by decide) rfl d14_65 rfl (fun (hc65 : 0 ≤ z675.toInt) => ?_) (fun (hc65 : ¬ (0 ≤ z675.toInt)) => absurd hc65 (by omega))
      refine go_iload 235 rfl d14_233 rfl ?_
      exact go_ireturn d14_235 rfl (Or.inl rfl) rfl rfl (by decide) (by decide) ⟨_, _, _, _, _, _, _, _, _, _, _, _, hV, _, first_yes h5.1 (by omega) hz675 (by omega), rfl, rfl⟩
    · have hz0 := sc_neg hz675 (by omega)
      obtain rfl : z675 = (-1 : Int32) := i32_of (k := -1) (by omega) rfl
      refine go_aloadN 27 rfl d14_26 rfl rfl ?_
      refine go_iconst (1 : Int32) 28 rfl d14_27 rfl ?_
      refine go_callP (host := "") 31 rfl d14_28 (Or.inl (wd hw 80 rfl)) (wd hw 81 rfl) (wd hw 82 rfl) (wd hw 9 rfl) (wd hw 10 rfl) (wd hw 83 rfl) (by decide) (Mo.exa (i := 0) rfl) (m_upd4_1 Z a0 hw h0 P a1 a2 a3 a4 a5 a6 a7 q0 q1 q2 q3 z101 z201 z301 z102 z202 z302 z103 z203 z303 z104 z204 z304 z105 z205 z305 z106 z206 z306 z107 z207 z307 z401 z402 z403 hV.s4 hV.s5 hV.s6 hV.s7 hV.k1 hV.k2 hV.k3) (argsL := [(.int (1 : Int32))]) (rest := []) rfl (ps := [.int]) (by decide +kernel) rfl rfl 0 rfl (by decide) (by decide) (by decide) (by decide) ?_
      rintro _ _ ⟨z676, z677, z678, z685, z679, z680, z681, z686, z682, z683, z684, z687, ⟨hz676, hz679, hz682⟩, rfl, rfl⟩
      show Go Bff4 Z a0 h0 _ 0 0 (M4 a1 a2 a3 a4 a5 a6 a7 q0 q1 q2 q3 z676 z677 z678 z679 z680 z681 z682 z683 z684 z104 z204 z304 z105 z205 z305 z106 z206 z306 z107 z207 z307 z685 z686 z687) 31 #[.val (.ref a1), .val (.int p4), .val (.int p5), .val (.int (3 : Int32)), .val (.int p9), .val (.int (-1 : Int32)), .unset, .unset, .unset, .unset, .unset] []
      have g2 := hV.s7.l0; have g3 := hV.s7.l1
      refine go_aloadN 32 rfl d14_31 rfl rfl ?_
      refine go_get 0 4 35 rfl d14_32 rfl rfl rfl (wd hw 37 rfl) ?_
      refine go_aloadN 36 rfl d14_35 rfl rfl ?_
      refine go_get 0 0 39 rfl d14_36 rfl rfl rfl (wd hw 27 rfl) ?_
      refine go_iloadN 40 rfl d14_39 rfl ?_
      refine go_iadd 41 rfl d14_40 rfl ?_
      refine go_iaload 42 rfl d14_41 rfl (Mo.el (i := 4) rfl (by decide) rfl) ?_
      refine go_bipush (64 : Int32) 44 rfl d14_42 rfl ?_
      refine go_iload 46 rfl d14_44 rfl ?_
      refine go_isub 47 rfl d14_46 rfl ?_
      have fa20 : ((64 : Int32) - p9).toInt = (64 : Int) - p9.toInt := subE rfl rfl (by omega)
      refine go_callS 50 rfl d14_47 (wd hw 84 rfl) (wd hw 2 rfl) (wd hw 3 rfl) (wd hw 4 rfl) (by decide) (m_min Z a0 hw h0 (mem20 a1 a2 a3 a4 a5 a6 a7 q0 q1 q2 q3 z676 z679 z682 z104 z105 z106 z107 z677 z680 z683 z204 z205 z206 z207 z678 z681 z684 z304 z305 z306 z307 z685 z686 z687) z207 ((64 : Int32) - p9)) (argsL := [(.int z207), (.int ((64 : Int32) - p9))]) (rest := []) rfl (ps := [.int, .int]) (by decide +kernel) rfl rfl 0 rfl (by decide) (by decide) (by decide) (by decide) ?_
      rintro _ _ ⟨z9105, rfl, rfl, hz9105, gz9105⟩
      show Go Bff4 Z a0 h0 _ 0 0 (M4 a1 a2 a3 a4 a5 a6 a7 q0 q1 q2 q3 z676 z677 z678 z679 z680 z681 z682 z683 z684 z104 z204 z304 z105 z205 z305 z106 z206 z306 z107 z207 z307 z685 z686 z687) 50 #[.val (.ref a1), .val (.int p4), .val (.int p5), .val (.int (3 : Int32)), .val (.int p9), .val (.int (-1 : Int32)), .unset, .unset, .unset, .unset, .unset] [(.int z9105)]
      have kz9105 : z9105.toInt = z207.toInt ∨ z9105.toInt = ((64 : Int32) - p9).toInt := by rcases gz9105 with h | h <;> rw [h] <;> simp
      refine go_istore #[.val (.ref a1), .val (.int p4), .val (.int p5), .val (.int (3 : Int32)), .val (.int p9), .val (.int (-1 : Int32)), .val (.int z9105), .unset, .unset, .unset, .unset] 52 rfl d14_50 rfl rfl ?_
      refine go_aloadN 53 rfl d14_52 rfl rfl ?_
      refine go_get 0 0 56 rfl d14_53 rfl rfl rfl (wd hw 27 rfl) ?_
      refine go_iloadN 57 rfl d14_56 rfl ?_
      refine go_iadd 58 rfl d14_57 rfl ?_
      refine go_callS 61 rfl d14_58 (wd hw 85 rfl) (wd hw 86 rfl) (wd hw 10 rfl) (wd hw 87 rfl) (by decide) (Met.frame (M4 a1 a2 a3 a4 a5 a6 a7 q0 q1 q2 q3 z676 z677 z678 z679 z680 z681 z682 z683 z684 z104 z204 z304 z105 z205 z305 z106 z206 z306 z107 z207 z307 z685 z686 z687) (mt81 Z a0 hw h0)) (argsL := [(.int (7 : Int32))]) (rest := []) rfl (ps := [.int]) (by decide +kernel) rfl rfl 0 rfl (by decide) (by decide) (by decide) (by decide) ?_
      rintro _ _ ⟨_, ⟨rfl, rfl⟩, rfl⟩
      show Go Bff4 Z a0 h0 _ 0 0 (M4 a1 a2 a3 a4 a5 a6 a7 q0 q1 q2 q3 z676 z677 z678 z679 z680 z681 z682 z683 z684 z104 z204 z304 z105 z205 z305 z106 z206 z306 z107 z207 z307 z685 z686 z687) 61 #[.val (.ref a1), .val (.int p4), .val (.int p5), .val (.int (3 : Int32)), .val (.int p9), .val (.int (-1 : Int32)), .val (.int z9105), .unset, .unset, .unset, .unset] [(.int (0 : Int32))]
      refine go_istore #[.val (.ref a1), .val (.int p4), .val (.int p5), .val (.int (3 : Int32)), .val (.int p9), .val (.int (-1 : Int32)), .val (.int z9105), .val (.int (0 : Int32)), .unset, .unset, .unset] 63 rfl d14_61 rfl rfl ?_
      exact lp4_0 Z a0 hw h0 P a1 a2 a3 a4 a5 a6 a7 q0 q1 q2 q3 z676 z677 z678 z679 z680 z681 z682 z683 z684 z104 z204 z304 z105 z205 z305 z106 z206 z306 z107 z207 z307 z685 z686 z687 p4 p5 z9105 (3 : Int32) p9 (.unset) (Or.inl rfl) (.unset) (Or.inl rfl) (.unset) (Or.inl rfl) h5 hF0 hV.e0 hV.e1 hV.e2 hV.e3 hz676 hz679 hz682 hV.s4 hV.s5 hV.s6 hV.s7 hC (first_no h5.1 (by omega) (by omega) (by omega) hV.s7 hz675 (by decide) (by omega) (by omega) (by omega))
theorem d13_0 : decode prog_101_method_5_code 0 = .ok (.aload_n 0, 1) := by decide +kernel
theorem d13_1 : decode prog_101_method_5_code 1 = .ok (.iload_n 1, 1) := by decide +kernel
theorem d13_2 : decode prog_101_method_5_code 2 = .ok (.invokevirtual 48, 3) := by decide +kernel
theorem d13_5 : decode prog_101_method_5_code 5 = .ok (.aload_n 0, 1) := by decide +kernel
theorem d13_6 : decode prog_101_method_5_code 6 = .ok (.getfield 21, 3) := by decide +kernel
theorem d13_9 : decode prog_101_method_5_code 9 = .ok (.iload_n 1, 1) := by decide +kernel
theorem d13_10 : decode prog_101_method_5_code 10 = .ok (.iadd, 1) := by decide +kernel
theorem d13_11 : decode prog_101_method_5_code 11 = .ok (.iconst 2, 1) := by decide +kernel
theorem d13_12 : decode prog_101_method_5_code 12 = .ok (.idiv, 1) := by decide +kernel
theorem d13_13 : decode prog_101_method_5_code 13 = .ok (.istore_n 2, 1) := by decide +kernel
theorem d13_14 : decode prog_101_method_5_code 14 = .ok (.iload_n 2, 1) := by decide +kernel
theorem d13_15 : decode prog_101_method_5_code 15 = .ok (.ifCond .le 26, 3) := by decide +kernel
theorem d13_41 : decode prog_101_method_5_code 41 = .ok (.return_, 1) := by decide +kernel
theorem pn13 : plainFor (⟨"com/example/clauseline/clauseline/service/TakenPieces", "changed", "(I)V"⟩ : MethodName) = true := by first | (apply plainFor_of_name; simp [plainName, overriddenIn]; done) | decide +kernel
def Bchg1_0_0 : Bdy := (⟨"com/example/clauseline/clauseline/service/TakenPieces", "changed", "(I)V"⟩, prog_101_method_5_code, 3, none, ({ frames := 4, cells := 0, slots := 0, locals := 67 } : Room))
theorem m_chg1_0_0 (Z : State) (a0 : Array Value) (hw : ∀ d ∈ tables_1, d.before a0 Z = true) (h0 : Heap) (P : Fr1) (a1 a2 a3 a4 a5 a6 a7 : Addr) (v91 v92 v93 v94 v95 : List Value) (q1 : Int64) (hq : v91[(0 : Int32).toNatClampNeg]? = some (.long q1)) (hs : v92[(0 : Int32).toNatClampNeg]? = some (.long (0 : Int64))) (hF : Fre P 0 q1) (hf : (1 : Int32).toNatClampNeg < v93.length) (hl : (1 : Int32).toNatClampNeg < v94.length) (hm : (1 : Int32).toNatClampNeg < v95.length) :
    Met Bchg1_0_0 Z a0 h0 #[(.ref a1), (.int (0 : Int32))] (M7 a1 a2 a3 a4 a5 a6 a7 (1 : Int32) v91 v92 v93 v94 v95 [(.int (0 : Int32))]) (fun v ds => ∃ z1 z2 z3 : Int32, Sm P 0 64 z1.toInt z2.toInt z3.toInt ∧ Ret none (M7 a1 a2 a3 a4 a5 a6 a7 (1 : Int32) v91 v92 (v93.set (1 : Int32).toNatClampNeg (.int z1)) (v94.set (1 : Int32).toNatClampNeg (.int z2)) (v95.set (1 : Int32).toNatClampNeg (.int z3)) [(.int (0 : Int32))]) v ds) := by
  refine Met.of pn13 (ls := #[.val (.ref a1), .val (.int (0 : Int32)), .unset]) (fun m => by first | (simp [entryFrame, mkF, argsToLocals, Value.category, Bchg1_0_0]; done) | rfl) ?_
  refine go_aloadN 1 rfl d13_0 rfl rfl ?_
  refine go_iloadN 2 rfl d13_1 rfl ?_
  refine go_callP (host := "") 5 rfl d13_2 (Or.inl (wd hw 45 rfl)) (wd hw 46 rfl) (wd hw 47 rfl) (wd hw 9 rfl) (wd hw 10 rfl) (wd hw 48 rfl) (by decide) (Mo.exa (i := 0) rfl) (m_sum Z a0 hw h0 P a1 a2 a3 a4 a5 a6 a7 v91 v92 v93 v94 v95 [(.int (0 : Int32))] (0 : Int32) (1 : Int32) (1 : Int32) q1 0 0 64 hq hs (by decide) hF rfl (by decide) (by decide) (by decide) (by decide) hf hl hm) (argsL := [(.int (0 : Int32))]) (rest := []) rfl (ps := [.int]) (by decide +kernel) rfl rfl 0 rfl (by decide) (by decide) (by decide) (by decide) ?_
  rintro _ _ ⟨z661, z662, z663, hS, rfl, rfl⟩
  show Go Bchg1_0_0 Z a0 h0 _ 0 0 (M7 a1 a2 a3 a4 a5 a6 a7 (1 : Int32) v91 v92 (v93.set (1 : Int32).toNatClampNeg (.int z661)) (v94.set (1 : Int32).toNatClampNeg (.int z662)) (v95.set (1 : Int32).toNatClampNeg (.int z663)) [(.int (0 : Int32))]) 5 #[.val (.ref a1), .val (.int (0 : Int32)), .unset] []
  refine go_aloadN 6 rfl d13_5 rfl rfl ?_
  refine go_get 0 0 9 rfl d13_6 rfl rfl rfl (wd hw 27 rfl) ?_
  refine go_iloadN 10 rfl d13_9 rfl ?_
  refine go_iadd 11 rfl d13_10 rfl ?_
  refine go_iconst (2 : Int32) 12 rfl d13_11 rfl ?_
  refine go_idiv 13 rfl d13_12 rfl (by decide) ?_
  refine go_istoreN #[.val (.ref a1), .val (.int (0 : Int32)), .val (.int (0 : Int32))] 14 rfl d13_13 rfl rfl ?_
  refine go_iloadN 15 rfl d13_14 rfl ?_
  refine go_if 41 18 rfl (by decide) rfl d13_15 rfl (fun (hc15 : (0 : Int) ≤ 0) => ?_) (fun (hc15 : ¬ ((0 : Int) ≤ 0)) => absurd hc15 (by decide))
  exact go_return d13_41 rfl rfl (by decide) (by decide) ⟨_, _, _, hS, rfl, rfl⟩
theorem d12_0 : decode prog_101_method_2_code 0 = .ok (.iload_n 1, 1) := by decide +kernel
theorem d12_1 : decode prog_101_method_2_code 1 = .ok (.bipush 64, 2) := by decide +kernel
theorem d12_3 : decode prog_101_method_2_code 3 = .ok (.idiv, 1) := by decide +kernel
theorem d12_4 : decode prog_101_method_2_code 4 = .ok (.istore_n 3, 1) := by decide +kernel
theorem d12_5 : decode prog_101_method_2_code 5 = .ok (.iload_n 2, 1) := by decide +kernel
theorem d12_6 : decode prog_101_method_2_code 6 = .ok (.bipush 64, 2) := by decide +kernel
theorem d12_8 : decode prog_101_method_2_code 8 = .ok (.idiv, 1) := by decide +kernel
theorem d12_9 : decode prog_101_method_2_code 9 = .ok (.istore 4, 2) := by decide +kernel
theorem d12_11 : decode prog_101_method_2_code 11 = .ok (.iload_n 3, 1) := by decide +kernel
theorem d12_12 : decode prog_101_method_2_code 12 = .ok (.istore 5, 2) := by decide +kernel
theorem d12_14 : decode prog_101_method_2_code 14 = .ok (.iload 5, 2) := by decide +kernel
theorem d12_16 : decode prog_101_method_2_code 16 = .ok (.iload 4, 2) := by decide +kernel
theorem d12_18 : decode prog_101_method_2_code 18 = .ok (.if_icmp .gt 74, 3) := by decide +kernel
theorem d12_21 : decode prog_101_method_2_code 21 = .ok (.iload 5, 2) := by decide +kernel
theorem d12_23 : decode prog_101_method_2_code 23 = .ok (.iload_n 3, 1) := by decide +kernel
theorem d12_24 : decode prog_101_method_2_code 24 = .ok (.if_icmp .ne 10, 3) := by decide +kernel
theorem d12_27 : decode prog_101_method_2_code 27 = .ok (.iload_n 1, 1) := by decide +kernel
theorem d12_28 : decode prog_101_method_2_code 28 = .ok (.bipush 64, 2) := by decide +kernel
theorem d12_30 : decode prog_101_method_2_code 30 = .ok (.irem, 1) := by decide +kernel
theorem d12_31 : decode prog_101_method_2_code 31 = .ok (.goto 4, 3) := by decide +kernel
theorem d12_35 : decode prog_101_method_2_code 35 = .ok (.istore 6, 2) := by decide +kernel
theorem d12_37 : decode prog_101_method_2_code 37 = .ok (.iload 5, 2) := by decide +kernel
theorem d12_39 : decode prog_101_method_2_code 39 = .ok (.iload 4, 2) := by decide +kernel
theorem d12_41 : decode prog_101_method_2_code 41 = .ok (.if_icmp .ne 10, 3) := by decide +kernel
theorem d12_44 : decode prog_101_method_2_code 44 = .ok (.iload_n 2, 1) := by decide +kernel
theorem d12_45 : decode prog_101_method_2_code 45 = .ok (.bipush 64, 2) := by decide +kernel
theorem d12_47 : decode prog_101_method_2_code 47 = .ok (.irem, 1) := by decide +kernel
theorem d12_48 : decode prog_101_method_2_code 48 = .ok (.goto 5, 3) := by decide +kernel
theorem d12_53 : decode prog_101_method_2_code 53 = .ok (.istore 7, 2) := by decide +kernel
theorem d12_55 : decode prog_101_method_2_code 55 = .ok (.aload_n 0, 1) := by decide +kernel
theorem d12_56 : decode prog_101_method_2_code 56 = .ok (.getfield 25, 3) := by decide +kernel
theorem d12_59 : decode prog_101_method_2_code 59 = .ok (.iload 5, 2) := by decide +kernel
theorem d12_61 : decode prog_101_method_2_code 61 = .ok (.dup2, 1) := by decide +kernel
theorem d12_62 : decode prog_101_method_2_code 62 = .ok (.laload, 1) := by decide +kernel
theorem d12_63 : decode prog_101_method_2_code 63 = .ok (.ldc2_w 46, 3) := by decide +kernel
theorem d12_66 : decode prog_101_method_2_code 66 = .ok (.bipush 63, 2) := by decide +kernel
theorem d12_68 : decode prog_101_method_2_code 68 = .ok (.iload 7, 2) := by decide +kernel
theorem d12_70 : decode prog_101_method_2_code 70 = .ok (.isub, 1) := by decide +kernel
theorem d12_71 : decode prog_101_method_2_code 71 = .ok (.iload 6, 2) := by decide +kernel
theorem d12_73 : decode prog_101_method_2_code 73 = .ok (.iadd, 1) := by decide +kernel
theorem d12_74 : decode prog_101_method_2_code 74 = .ok (.lushr, 1) := by decide +kernel
theorem d12_75 : decode prog_101_method_2_code 75 = .ok (.iload 6, 2) := by decide +kernel
theorem d12_77 : decode prog_101_method_2_code 77 = .ok (.lshl, 1) := by decide +kernel
theorem d12_78 : decode prog_101_method_2_code 78 = .ok (.lor, 1) := by decide +kernel
theorem d12_79 : decode prog_101_method_2_code 79 = .ok (.lastore, 1) := by decide +kernel
theorem d12_80 : decode prog_101_method_2_code 80 = .ok (.aload_n 0, 1) := by decide +kernel
theorem d12_81 : decode prog_101_method_2_code 81 = .ok (.iload 5, 2) := by decide +kernel
theorem d12_83 : decode prog_101_method_2_code 83 = .ok (.invokevirtual 55, 3) := by decide +kernel
theorem d12_86 : decode prog_101_method_2_code 86 = .ok (.iinc 5 1, 3) := by decide +kernel
theorem d12_89 : decode prog_101_method_2_code 89 = .ok (.goto (-75), 3) := by decide +kernel
theorem d12_92 : decode prog_101_method_2_code 92 = .ok (.return_, 1) := by decide +kernel
theorem pn12 : plainFor (⟨"com/example/clauseline/clauseline/service/TakenPieces", "take", "(II)V"⟩ : MethodName) = true := by first | (apply plainFor_of_name; simp [plainName, overriddenIn]; done) | decide +kernel
def Btk1 : Bdy := (⟨"com/example/clauseline/clauseline/service/TakenPieces", "take", "(II)V"⟩, prog_101_method_2_code, 8, none, ({ frames := 5, cells := 0, slots := 0, locals := 81 } : Room))
theorem m_tk1 (Z : State) (a0 : Array Value) (hw : ∀ d ∈ tables_1, d.before a0 Z = true) (h0 : Heap) (P : Fr1) (a1 a2 a3 a4 a5 a6 a7 : Addr) (q0 : Int64) (z101 z201 z301 : Int32) (p4 p5 : Int32) (C : Int) (h4 : 0 ≤ p4.toInt ∧ p4.toInt ≤ p5.toInt ∧ p5.toInt < C) (hC : C ≤ 64) (e0 : Fre (P0 C) 0 q0) (s1 : Sm (P0 C) 0 64 z101.toInt z201.toInt z301.toInt) :
    Met Btk1 Z a0 h0 #[(.ref a1), (.int p4), (.int p5)] (M1 a1 a2 a3 a4 a5 a6 a7 q0 z101 z201 z301) (fun v ds => ∃ (x0 : Int64) (y10 y11 y12 : Int32), Inv1 (P1 p4.toInt (p5.toInt + 1) C) x0 y10 y11 y12 ∧ Ret none (M1 a1 a2 a3 a4 a5 a6 a7 x0 y10 y11 y12) v ds) := by
  refine Met.of pn12 (ls := #[.val (.ref a1), .val (.int p4), .val (.int p5), .unset, .unset, .unset, .unset, .unset]) (fun m => by first | (simp [entryFrame, mkF, argsToLocals, Value.category, Btk1]; done) | rfl) ?_
  show Go Btk1 Z a0 h0 _ 0 0 (M1 a1 a2 a3 a4 a5 a6 a7 q0 z101 z201 z301) 0 #[.val (.ref a1), .val (.int p4), .val (.int p5), .unset, .unset, .unset, .unset, .unset] []
  have e0_ : (0 : Int32).toInt = 0 := rfl; have e63_ : (63 : Int32).toInt = 63 := rfl
  have ea := (c_idiv p4 (64 : Int32) 64 rfl (by decide)).1 (by omega); have eb := (c_idiv p5 (64 : Int32) 64 rfl (by decide)).1 (by omega)
  have ra := (c_irem p4 (64 : Int32) 64 rfl).1 (by omega); have rb := (c_irem p5 (64 : Int32) 64 rfl).1 (by omega)
  refine go_iloadN 1 rfl d12_0 rfl ?_
  refine go_bipush (64 : Int32) 3 rfl d12_1 rfl ?_
  refine go_idiv 4 rfl d12_3 rfl (by decide) ?_
  have ha : (p4 / (64 : Int32)) = (0 : Int32) := i32_of (k := 0) (by omega) rfl
  rw [ha]
  show Go Btk1 Z a0 h0 _ 0 0 (M1 a1 a2 a3 a4 a5 a6 a7 q0 z101 z201 z301) 4 #[.val (.ref a1), .val (.int p4), .val (.int p5), .unset, .unset, .unset, .unset, .unset] [(.int (0 : Int32))]
  have gha := congrArg Int32.toInt ha; have lha : (0 : Int32).toInt = 0 := rfl
  refine go_istoreN #[.val (.ref a1), .val (.int p4), .val (.int p5), .val (.int (0 : Int32)), .unset, .unset, .unset, .unset] 5 rfl d12_4 rfl rfl ?_
  refine go_iloadN 6 rfl d12_5 rfl ?_
  refine go_bipush (64 : Int32) 8 rfl d12_6 rfl ?_
  refine go_idiv 9 rfl d12_8 rfl (by decide) ?_
  have hb : (p5 / (64 : Int32)) = (0 : Int32) := i32_of (k := 0) (by omega) rfl
  rw [hb]
  show Go Btk1 Z a0 h0 _ 0 0 (M1 a1 a2 a3 a4 a5 a6 a7 q0 z101 z201 z301) 9 #[.val (.ref a1), .val (.int p4), .val (.int p5), .val (.int (0 : Int32)), .unset, .unset, .unset, .unset] [(.int (0 : Int32))]
  have ghb := congrArg Int32.toInt hb; have lhb : (0 : Int32).toInt = 0 := rfl
  refine go_istore #[.val (.ref a1), .val (.int p4), .val (.int p5), .val (.int (0 : Int32)), .val (.int (0 : Int32)), .unset, .unset, .unset] 11 rfl d12_9 rfl rfl ?_
  refine go_iloadN 12 rfl d12_11 rfl ?_
  refine go_istore #[.val (.ref a1), .val (.int p4), .val (.int p5), .val (.int (0 : Int32)), .val (.int (0 : Int32)), .val (.int (0 : Int32)), .unset, .unset] 14 rfl d12_12 rfl rfl ?_
  refine go_iload 16 rfl d12_14 rfl ?_
  refine go_iload 18 rfl d12_16 rfl ?_
  refine go_icmp 92 21 rfl (by decide) rfl d12_18 rfl (fun (hc18 : (0 : Int) < (0 : Int)) => absurd hc18 (by decide)) (fun (hc18 : ¬ ((0 : Int) < (0 : Int))) => ?_)
  refine go_iload 23 rfl d12_21 rfl ?_
  refine go_iloadN 24 rfl d12_23 rfl ?_
  refine go_icmp 34 27 rfl (by decide) rfl d12_24 rfl (fun (hc24 : (0 : Int) ≠ (0 : Int)) => absurd hc24 (by decide)) (fun (hc24 : ¬ ((0 : Int) ≠ (0 : Int))) => ?_)
  refine go_iloadN 28 rfl d12_27 rfl ?_
  refine go_bipush (64 : Int32) 30 rfl d12_28 rfl ?_
  refine go_irem 31 rfl d12_30 rfl (by decide) ?_
  generalize er : p4 % (64 : Int32) = p8 at ra ⊢
  refine go_goto 35 (by decide) rfl d12_31 ?_
  refine go_istore #[.val (.ref a1), .val (.int p4), .val (.int p5), .val (.int (0 : Int32)), .val (.int (0 : Int32)), .val (.int (0 : Int32)), .val (.int p8), .unset] 37 rfl d12_35 rfl rfl ?_
  refine go_iload 39 rfl d12_37 rfl ?_
  refine go_iload 41 rfl d12_39 rfl ?_
  refine go_icmp 51 44 rfl (by decide) rfl d12_41 rfl (fun (hc41 : (0 : Int) ≠ (0 : Int)) => absurd hc41 (by decide)) (fun (hc41 : ¬ ((0 : Int) ≠ (0 : Int))) => ?_)
  refine go_iloadN 45 rfl d12_44 rfl ?_
  refine go_bipush (64 : Int32) 47 rfl d12_45 rfl ?_
  refine go_irem 48 rfl d12_47 rfl (by decide) ?_
  generalize er2 : p5 % (64 : Int32) = p9 at rb ⊢
  refine go_goto 53 (by decide) rfl d12_48 ?_
  refine go_istore #[.val (.ref a1), .val (.int p4), .val (.int p5), .val (.int (0 : Int32)), .val (.int (0 : Int32)), .val (.int (0 : Int32)), .val (.int p8), .val (.int p9)] 55 rfl d12_53 rfl rfl ?_
  refine go_aloadN 56 rfl d12_55 rfl rfl ?_
  refine go_get 0 1 59 rfl d12_56 rfl rfl rfl (wd hw 30 rfl) ?_
  refine go_iload 61 rfl d12_59 rfl ?_
  refine go_dup2 62 rfl d12_61 rfl rfl rfl ?_
  refine go_laload 63 rfl d12_62 rfl (Mo.el (i := 1) rfl (by decide) rfl) ?_
  refine go_ldc2 (v := (-1 : Int64)) 66 rfl d12_63 (wd hw 44 rfl) ?_
  refine go_bipush (63 : Int32) 68 rfl d12_66 rfl ?_
  refine go_iload 70 rfl d12_68 rfl ?_
  refine go_isub 71 rfl d12_70 rfl ?_
  have fa1 : ((63 : Int32) - p9).toInt = (63 : Int) - p9.toInt := subE rfl rfl (by omega)
  refine go_iload 73 rfl d12_71 rfl ?_
  refine go_iadd 74 rfl d12_73 rfl ?_
  have fa2 : (((63 : Int32) - p9) + p8).toInt = ((63 : Int32) - p9).toInt + p8.toInt := addE rfl rfl (by omega)
  refine go_lushr 75 rfl d12_74 rfl ?_
  refine go_iload 77 rfl d12_75 rfl ?_
  refine go_lshl 78 rfl d12_77 rfl ?_
  refine go_lor 79 rfl d12_78 rfl ?_
  show Go Btk1 Z a0 h0 _ 0 0 (M1 a1 a2 a3 a4 a5 a6 a7 q0 z101 z201 z301) 79 #[.val (.ref a1), .val (.int p4), .val (.int p5), .val (.int (0 : Int32)), .val (.int (0 : Int32)), .val (.int (0 : Int32)), .val (.int p8), .val (.int p9)] [(.long (q0 ||| ((((-1 : Int64).toUInt64 >>> ((((63 : Int32) - p9) + p8) &&& 0x3f).toInt64.toUInt64).toInt64) <<< (p8 &&& 0x3f).toInt64))), (.int (0 : Int32)), (.ref a2)]
  have hx0 : Fre (P1 p4.toInt (p5.toInt + 1) C) 0 (q0 ||| ((((-1 : Int64).toUInt64 >>> ((((63 : Int32) - p9) + p8) &&& 0x3f).toInt64.toUInt64).toInt64) <<< (p8 &&& 0x3f).toInt64)) := fre_take (u := p8) (v := p9) (d := (((63 : Int32) - p9) + p8)) e0 (by omega) (by omega) (by first | omega | decide) (by first | omega | decide) (by first | omega | decide) (by first | omega | decide) (by first | omega | decide) (by first | omega | decide)
  generalize (q0 ||| ((((-1 : Int64).toUInt64 >>> ((((63 : Int32) - p9) + p8) &&& 0x3f).toInt64.toUInt64).toInt64) <<< (p8 &&& 0x3f).toInt64)) = q70 at hx0 ⊢
  refine go_lastore 1 80 rfl d12_79 rfl rfl (by decide) (lbe rfl) ?_
  refine go_aloadN 81 rfl d12_80 rfl rfl ?_
  refine go_iload 83 rfl d12_81 rfl ?_
  refine go_callP (host := "") 86 rfl d12_83 (Or.inl (wd hw 67 rfl)) (wd hw 68 rfl) (wd hw 69 rfl) (wd hw 9 rfl) (wd hw 10 rfl) (wd hw 70 rfl) (by decide) (Mo.exa (i := 0) rfl) (m_chg1_0_0 Z a0 hw h0 (P1 p4.toInt (p5.toInt + 1) C) a1 a2 a3 a4 a5 a6 a7 [(.long q70)] [(.long (0 : Int64))] [(.int (0 : Int32)), (.int z101)] [(.int (0 : Int32)), (.int z201)] [(.int (0 : Int32)), (.int z301)] q70 rfl rfl hx0 (lbe rfl) (lbe rfl) (lbe rfl)) (argsL := [(.int (0 : Int32))]) (rest := []) rfl (ps := [.int]) (by decide +kernel) rfl rfl 0 rfl (by decide) (by decide) (by decide) (by decide) ?_
  rintro _ _ ⟨z688, z689, z690, hz688, rfl, rfl⟩
  show Go Btk1 Z a0 h0 _ 0 0 (M1 a1 a2 a3 a4 a5 a6 a7 q70 z688 z689 z690) 86 #[.val (.ref a1), .val (.int p4), .val (.int p5), .val (.int (0 : Int32)), .val (.int (0 : Int32)), .val (.int (0 : Int32)), .val (.int p8), .val (.int p9)] []
  refine go_iinc #[.val (.ref a1), .val (.int p4), .val (.int p5), .val (.int (0 : Int32)), .val (.int (0 : Int32)), .val (.int (1 : Int32)), .val (.int p8), .val (.int p9)] 89 rfl d12_86 rfl rfl ?_
  refine go_goto 14 (by decide) rfl d12_89 ?_
  refine go_iload 16 rfl d12_14 rfl ?_
  refine go_iload 18 rfl d12_16 rfl ?_
  refine go_icmp 92 21 rfl (by decide) rfl d12_18 rfl (fun (hc18 : (0 : Int) < (1 : Int)) => ?_) (fun (hc18 : ¬ ((0 : Int) < (1 : Int))) => absurd hc18 (by decide))
  exact go_return d12_92 rfl rfl (by decide) (by decide) ⟨_, _, _, _, Inv1.mk (hx0) (hz688), rfl, rfl⟩
theorem d13_18 : decode prog_101_method_5_code 18 = .ok (.aload_n 0, 1) := by decide +kernel
theorem d13_19 : decode prog_101_method_5_code 19 = .ok (.getfield 42, 3) := by decide +kernel
theorem d13_22 : decode prog_101_method_5_code 22 = .ok (.iload_n 2, 1) := by decide +kernel
theorem d13_23 : decode prog_101_method_5_code 23 = .ok (.baload, 1) := by decide +kernel
theorem d13_24 : decode prog_101_method_5_code 24 = .ok (.ifCond .ne 17, 3) := by decide +kernel
theorem d13_27 : decode prog_101_method_5_code 27 = .ok (.aload_n 0, 1) := by decide +kernel
theorem d13_28 : decode prog_101_method_5_code 28 = .ok (.getfield 42, 3) := by decide +kernel
theorem d13_31 : decode prog_101_method_5_code 31 = .ok (.iload_n 2, 1) := by decide +kernel
theorem d13_32 : decode prog_101_method_5_code 32 = .ok (.iconst 1, 1) := by decide +kernel
theorem d13_33 : decode prog_101_method_5_code 33 = .ok (.bastore, 1) := by decide +kernel
theorem d13_34 : decode prog_101_method_5_code 34 = .ok (.iload_n 2, 1) := by decide +kernel
theorem d13_35 : decode prog_101_method_5_code 35 = .ok (.iconst 2, 1) := by decide +kernel
theorem d13_36 : decode prog_101_method_5_code 36 = .ok (.idiv, 1) := by decide +kernel
theorem d13_37 : decode prog_101_method_5_code 37 = .ok (.istore_n 2, 1) := by decide +kernel
theorem d13_38 : decode prog_101_method_5_code 38 = .ok (.goto (-24), 3) := by decide +kernel
def Bchg2_0_00 : Bdy := (⟨"com/example/clauseline/clauseline/service/TakenPieces", "changed", "(I)V"⟩, prog_101_method_5_code, 3, none, ({ frames := 4, cells := 0, slots := 0, locals := 67 } : Room))
theorem m_chg2_0_00 (Z : State) (a0 : Array Value) (hw : ∀ d ∈ tables_1, d.before a0 Z = true) (h0 : Heap) (P : Fr1) (a1 a2 a3 a4 a5 a6 a7 : Addr) (v91 v92 v93 v94 v95 : List Value) (q1 : Int64) (hq : v91[(0 : Int32).toNatClampNeg]? = some (.long q1)) (hs : v92[(0 : Int32).toNatClampNeg]? = some (.long (0 : Int64))) (hF : Fre P 0 q1) (hf : (2 : Int32).toNatClampNeg < v93.length) (hl : (2 : Int32).toNatClampNeg < v94.length) (hm : (2 : Int32).toNatClampNeg < v95.length) :
    Met Bchg2_0_00 Z a0 h0 #[(.ref a1), (.int (0 : Int32))] (M7 a1 a2 a3 a4 a5 a6 a7 (2 : Int32) v91 v92 v93 v94 v95 [(.int (0 : Int32)), (.int (0 : Int32))]) (fun v ds => ∃ z1 z2 z3 : Int32, Sm P 0 64 z1.toInt z2.toInt z3.toInt ∧ Ret none (M7 a1 a2 a3 a4 a5 a6 a7 (2 : Int32) v91 v92 (v93.set (2 : Int32).toNatClampNeg (.int z1)) (v94.set (2 : Int32).toNatClampNeg (.int z2)) (v95.set (2 : Int32).toNatClampNeg (.int z3)) [(.int (0 : Int32)), (.int (1 : Int32))]) v ds) := by
  refine Met.of pn13 (ls := #[.val (.ref a1), .val (.int (0 : Int32)), .unset]) (fun m => by first | (simp [entryFrame, mkF, argsToLocals, Value.category, Bchg2_0_00]; done) | rfl) ?_
  refine go_aloadN 1 rfl d13_0 rfl rfl ?_
  refine go_iloadN 2 rfl d13_1 rfl ?_
  refine go_callP (host := "") 5 rfl d13_2 (Or.inl (wd hw 45 rfl)) (wd hw 46 rfl) (wd hw 47 rfl) (wd hw 9 rfl) (wd hw 10 rfl) (wd hw 48 rfl) (by decide) (Mo.exa (i := 0) rfl) (m_sum Z a0 hw h0 P a1 a2 a3 a4 a5 a6 a7 v91 v92 v93 v94 v95 [(.int (0 : Int32)), (.int (0 : Int32))] (0 : Int32) (2 : Int32) (2 : Int32) q1 0 0 64 hq hs (by decide) hF rfl (by decide) (by decide) (by decide) (by decide) hf hl hm) (argsL := [(.int (0 : Int32))]) (rest := []) rfl (ps := [.int]) (by decide +kernel) rfl rfl 0 rfl (by decide) (by decide) (by decide) (by decide) ?_
  rintro _ _ ⟨z661, z662, z663, hS, rfl, rfl⟩
  show Go Bchg2_0_00 Z a0 h0 _ 0 0 (M7 a1 a2 a3 a4 a5 a6 a7 (2 : Int32) v91 v92 (v93.set (2 : Int32).toNatClampNeg (.int z661)) (v94.set (2 : Int32).toNatClampNeg (.int z662)) (v95.set (2 : Int32).toNatClampNeg (.int z663)) [(.int (0 : Int32)), (.int (0 : Int32))]) 5 #[.val (.ref a1), .val (.int (0 : Int32)), .unset] []
  refine go_aloadN 6 rfl d13_5 rfl rfl ?_
  refine go_get 0 0 9 rfl d13_6 rfl rfl rfl (wd hw 27 rfl) ?_
  refine go_iloadN 10 rfl d13_9 rfl ?_
  refine go_iadd 11 rfl d13_10 rfl ?_
  refine go_iconst (2 : Int32) 12 rfl d13_11 rfl ?_
  refine go_idiv 13 rfl d13_12 rfl (by decide) ?_
  refine go_istoreN #[.val (.ref a1), .val (.int (0 : Int32)), .val (.int (1 : Int32))] 14 rfl d13_13 rfl rfl ?_
  refine go_iloadN 15 rfl d13_14 rfl ?_
  refine go_if 41 18 rfl (by decide) rfl d13_15 rfl (fun (hc15 : (1 : Int) ≤ 0) => absurd hc15 (by decide)) (fun (hc15 : ¬ ((1 : Int) ≤ 0)) => ?_)
  refine go_aloadN 19 rfl d13_18 rfl rfl ?_
  refine go_get 0 6 22 rfl d13_19 rfl rfl rfl (wd hw 42 rfl) ?_
  refine go_iloadN 23 rfl d13_22 rfl ?_
  refine go_zaload 24 rfl d13_23 rfl (Mo.el (i := 6) rfl (by decide) rfl) ?_
  refine go_if 41 27 rfl (by decide) rfl d13_24 rfl (fun (hc24 : (0 : Int) ≠ 0) => absurd hc24 (by decide)) (fun (hc24 : ¬ ((0 : Int) ≠ 0)) => ?_)
  refine go_aloadN 28 rfl d13_27 rfl rfl ?_
  refine go_get 0 6 31 rfl d13_28 rfl rfl rfl (wd hw 42 rfl) ?_
  refine go_iloadN 32 rfl d13_31 rfl ?_
  refine go_iconst (1 : Int32) 33 rfl d13_32 rfl ?_
  refine go_zastore 6 34 rfl d13_33 rfl rfl (by decide) (lbe rfl) ?_
  refine go_iloadN 35 rfl d13_34 rfl ?_
  refine go_iconst (2 : Int32) 36 rfl d13_35 rfl ?_
  refine go_idiv 37 rfl d13_36 rfl (by decide) ?_
  refine go_istoreN #[.val (.ref a1), .val (.int (0 : Int32)), .val (.int (0 : Int32))] 38 rfl d13_37 rfl rfl ?_
  refine go_goto 14 (by decide) rfl d13_38 ?_
  refine go_iloadN 15 rfl d13_14 rfl ?_
  refine go_if 41 18 rfl (by decide) rfl d13_15 rfl (fun (hc15 : (0 : Int) ≤ 0) => ?_) (fun (hc15 : ¬ ((0 : Int) ≤ 0)) => absurd hc15 (by decide))
  exact go_return d13_41 rfl rfl (by decide) (by decide) ⟨_, _, _, hS, rfl, rfl⟩
def Bchg2_1_01 : Bdy := (⟨"com/example/clauseline/clauseline/service/TakenPieces", "changed", "(I)V"⟩, prog_101_method_5_code, 3, none, ({ frames := 4, cells := 0, slots := 0, locals := 67 } : Room))
theorem m_chg2_1_01 (Z : State) (a0 : Array Value) (hw : ∀ d ∈ tables_1, d.before a0 Z = true) (h0 : Heap) (P : Fr1) (a1 a2 a3 a4 a5 a6 a7 : Addr) (v91 v92 v93 v94 v95 : List Value) (q1 : Int64) (hq : v91[(1 : Int32).toNatClampNeg]? = some (.long q1)) (hs : v92[(1 : Int32).toNatClampNeg]? = some (.long (0 : Int64))) (hF : Fre P 1 q1) (hf : (3 : Int32).toNatClampNeg < v93.length) (hl : (3 : Int32).toNatClampNeg < v94.length) (hm : (3 : Int32).toNatClampNeg < v95.length) :
    Met Bchg2_1_01 Z a0 h0 #[(.ref a1), (.int (1 : Int32))] (M7 a1 a2 a3 a4 a5 a6 a7 (2 : Int32) v91 v92 v93 v94 v95 [(.int (0 : Int32)), (.int (1 : Int32))]) (fun v ds => ∃ z1 z2 z3 : Int32, Sm P 64 128 z1.toInt z2.toInt z3.toInt ∧ Ret none (M7 a1 a2 a3 a4 a5 a6 a7 (2 : Int32) v91 v92 (v93.set (3 : Int32).toNatClampNeg (.int z1)) (v94.set (3 : Int32).toNatClampNeg (.int z2)) (v95.set (3 : Int32).toNatClampNeg (.int z3)) [(.int (0 : Int32)), (.int (1 : Int32))]) v ds) := by
  refine Met.of pn13 (ls := #[.val (.ref a1), .val (.int (1 : Int32)), .unset]) (fun m => by first | (simp [entryFrame, mkF, argsToLocals, Value.category, Bchg2_1_01]; done) | rfl) ?_
  refine go_aloadN 1 rfl d13_0 rfl rfl ?_
  refine go_iloadN 2 rfl d13_1 rfl ?_
  refine go_callP (host := "") 5 rfl d13_2 (Or.inl (wd hw 45 rfl)) (wd hw 46 rfl) (wd hw 47 rfl) (wd hw 9 rfl) (wd hw 10 rfl) (wd hw 48 rfl) (by decide) (Mo.exa (i := 0) rfl) (m_sum Z a0 hw h0 P a1 a2 a3 a4 a5 a6 a7 v91 v92 v93 v94 v95 [(.int (0 : Int32)), (.int (1 : Int32))] (1 : Int32) (2 : Int32) (3 : Int32) q1 1 64 128 hq hs (by decide) hF rfl (by decide) (by decide) (by decide) (by decide) hf hl hm) (argsL := [(.int (1 : Int32))]) (rest := []) rfl (ps := [.int]) (by decide +kernel) rfl rfl 0 rfl (by decide) (by decide) (by decide) (by decide) ?_
  rintro _ _ ⟨z661, z662, z663, hS, rfl, rfl⟩
  show Go Bchg2_1_01 Z a0 h0 _ 0 0 (M7 a1 a2 a3 a4 a5 a6 a7 (2 : Int32) v91 v92 (v93.set (3 : Int32).toNatClampNeg (.int z661)) (v94.set (3 : Int32).toNatClampNeg (.int z662)) (v95.set (3 : Int32).toNatClampNeg (.int z663)) [(.int (0 : Int32)), (.int (1 : Int32))]) 5 #[.val (.ref a1), .val (.int (1 : Int32)), .unset] []
  refine go_aloadN 6 rfl d13_5 rfl rfl ?_
  refine go_get 0 0 9 rfl d13_6 rfl rfl rfl (wd hw 27 rfl) ?_
  refine go_iloadN 10 rfl d13_9 rfl ?_
  refine go_iadd 11 rfl d13_10 rfl ?_
  refine go_iconst (2 : Int32) 12 rfl d13_11 rfl ?_
  refine go_idiv 13 rfl d13_12 rfl (by decide) ?_
  refine go_istoreN #[.val (.ref a1), .val (.int (1 : Int32)), .val (.int (1 : Int32))] 14 rfl d13_13 rfl rfl ?_
  refine go_iloadN 15 rfl d13_14 rfl ?_
  refine go_if 41 18 rfl (by decide) rfl d13_15 rfl (fun (hc15 : (1 : Int) ≤ 0) => absurd hc15 (by decide)) (fun (hc15 : ¬ ((1 : Int) ≤ 0)) => ?_)
  refine go_aloadN 19 rfl d13_18 rfl rfl ?_
  refine go_get 0 6 22 rfl d13_19 rfl rfl rfl (wd hw 42 rfl) ?_
  refine go_iloadN 23 rfl d13_22 rfl ?_
  refine go_zaload 24 rfl d13_23 rfl (Mo.el (i := 6) rfl (by decide) rfl) ?_
  refine go_if 41 27 rfl (by decide) rfl d13_24 rfl (fun (hc24 : (1 : Int) ≠ 0) => ?_) (fun (hc24 : ¬ ((1 : Int) ≠ 0)) => absurd hc24 (by decide))
  exact go_return d13_41 rfl rfl (by decide) (by decide) ⟨_, _, _, hS, rfl, rfl⟩
def Bchg2_1_00 : Bdy := (⟨"com/example/clauseline/clauseline/service/TakenPieces", "changed", "(I)V"⟩, prog_101_method_5_code, 3, none, ({ frames := 4, cells := 0, slots := 0, locals := 67 } : Room))
theorem m_chg2_1_00 (Z : State) (a0 : Array Value) (hw : ∀ d ∈ tables_1, d.before a0 Z = true) (h0 : Heap) (P : Fr1) (a1 a2 a3 a4 a5 a6 a7 : Addr) (v91 v92 v93 v94 v95 : List Value) (q1 : Int64) (hq : v91[(1 : Int32).toNatClampNeg]? = some (.long q1)) (hs : v92[(1 : Int32).toNatClampNeg]? = some (.long (0 : Int64))) (hF : Fre P 1 q1) (hf : (3 : Int32).toNatClampNeg < v93.length) (hl : (3 : Int32).toNatClampNeg < v94.length) (hm : (3 : Int32).toNatClampNeg < v95.length) :
    Met Bchg2_1_00 Z a0 h0 #[(.ref a1), (.int (1 : Int32))] (M7 a1 a2 a3 a4 a5 a6 a7 (2 : Int32) v91 v92 v93 v94 v95 [(.int (0 : Int32)), (.int (0 : Int32))]) (fun v ds => ∃ z1 z2 z3 : Int32, Sm P 64 128 z1.toInt z2.toInt z3.toInt ∧ Ret none (M7 a1 a2 a3 a4 a5 a6 a7 (2 : Int32) v91 v92 (v93.set (3 : Int32).toNatClampNeg (.int z1)) (v94.set (3 : Int32).toNatClampNeg (.int z2)) (v95.set (3 : Int32).toNatClampNeg (.int z3)) [(.int (0 : Int32)), (.int (1 : Int32))]) v ds) := by
  refine Met.of pn13 (ls := #[.val (.ref a1), .val (.int (1 : Int32)), .unset]) (fun m => by first | (simp [entryFrame, mkF, argsToLocals, Value.category, Bchg2_1_00]; done) | rfl) ?_
  refine go_aloadN 1 rfl d13_0 rfl rfl ?_
  refine go_iloadN 2 rfl d13_1 rfl ?_
  refine go_callP (host := "") 5 rfl d13_2 (Or.inl (wd hw 45 rfl)) (wd hw 46 rfl) (wd hw 47 rfl) (wd hw 9 rfl) (wd hw 10 rfl) (wd hw 48 rfl) (by decide) (Mo.exa (i := 0) rfl) (m_sum Z a0 hw h0 P a1 a2 a3 a4 a5 a6 a7 v91 v92 v93 v94 v95 [(.int (0 : Int32)), (.int (0 : Int32))] (1 : Int32) (2 : Int32) (3 : Int32) q1 1 64 128 hq hs (by decide) hF rfl (by decide) (by decide) (by decide) (by decide) hf hl hm) (argsL := [(.int (1 : Int32))]) (rest := []) rfl (ps := [.int]) (by decide +kernel) rfl rfl 0 rfl (by decide) (by decide) (by decide) (by decide) ?_
  rintro _ _ ⟨z661, z662, z663, hS, rfl, rfl⟩
  show Go Bchg2_1_00 Z a0 h0 _ 0 0 (M7 a1 a2 a3 a4 a5 a6 a7 (2 : Int32) v91 v92 (v93.set (3 : Int32).toNatClampNeg (.int z661)) (v94.set (3 : Int32).toNatClampNeg (.int z662)) (v95.set (3 : Int32).toNatClampNeg (.int z663)) [(.int (0 : Int32)), (.int (0 : Int32))]) 5 #[.val (.ref a1), .val (.int (1 : Int32)), .unset] []
  refine go_aloadN 6 rfl d13_5 rfl rfl ?_
  refine go_get 0 0 9 rfl d13_6 rfl rfl rfl (wd hw 27 rfl) ?_
  refine go_iloadN 10 rfl d13_9 rfl ?_
  refine go_iadd 11 rfl d13_10 rfl ?_
  refine go_iconst (2 : Int32) 12 rfl d13_11 rfl ?_
  refine go_idiv 13 rfl d13_12 rfl (by decide) ?_
  refine go_istoreN #[.val (.ref a1), .val (.int (1 : Int32)), .val (.int (1 : Int32))] 14 rfl d13_13 rfl rfl ?_
  refine go_iloadN 15 rfl d13_14 rfl ?_
  refine go_if 41 18 rfl (by decide) rfl d13_15 rfl (fun (hc15 : (1 : Int) ≤ 0) => absurd hc15 (by decide)) (fun (hc15 : ¬ ((1 : Int) ≤ 0)) => ?_)
  refine go_aloadN 19 rfl d13_18 rfl rfl ?_
  refine go_get 0 6 22 rfl d13_19 rfl rfl rfl (wd hw 42 rfl) ?_
  refine go_iloadN 23 rfl d13_22 rfl ?_
  refine go_zaload 24 rfl d13_23 rfl (Mo.el (i := 6) rfl (by decide) rfl) ?_
  refine go_if 41 27 rfl (by decide) rfl d13_24 rfl (fun (hc24 : (0 : Int) ≠ 0) => absurd hc24 (by decide)) (fun (hc24 : ¬ ((0 : Int) ≠ 0)) => ?_)
  refine go_aloadN 28 rfl d13_27 rfl rfl ?_
  refine go_get 0 6 31 rfl d13_28 rfl rfl rfl (wd hw 42 rfl) ?_
  refine go_iloadN 32 rfl d13_31 rfl ?_
  refine go_iconst (1 : Int32) 33 rfl d13_32 rfl ?_
  refine go_zastore 6 34 rfl d13_33 rfl rfl (by decide) (lbe rfl) ?_
  refine go_iloadN 35 rfl d13_34 rfl ?_
  refine go_iconst (2 : Int32) 36 rfl d13_35 rfl ?_
  refine go_idiv 37 rfl d13_36 rfl (by decide) ?_
  refine go_istoreN #[.val (.ref a1), .val (.int (1 : Int32)), .val (.int (0 : Int32))] 38 rfl d13_37 rfl rfl ?_
  refine go_goto 14 (by decide) rfl d13_38 ?_
  refine go_iloadN 15 rfl d13_14 rfl ?_
  refine go_if 41 18 rfl (by decide) rfl d13_15 rfl (fun (hc15 : (0 : Int) ≤ 0) => ?_) (fun (hc15 : ¬ ((0 : Int) ≤ 0)) => absurd hc15 (by decide))
  exact go_return d13_41 rfl rfl (by decide) (by decide) ⟨_, _, _, hS, rfl, rfl⟩
theorem d12_34 : decode prog_101_method_2_code 34 = .ok (.iconst 0, 1) := by decide +kernel
theorem d12_51 : decode prog_101_method_2_code 51 = .ok (.bipush 63, 2) := by decide +kernel
def Btk2 : Bdy := (⟨"com/example/clauseline/clauseline/service/TakenPieces", "take", "(II)V"⟩, prog_101_method_2_code, 8, none, ({ frames := 5, cells := 0, slots := 0, locals := 81 } : Room))
theorem m_tk2 (Z : State) (a0 : Array Value) (hw : ∀ d ∈ tables_1, d.before a0 Z = true) (h0 : Heap) (P : Fr1) (a1 a2 a3 a4 a5 a6 a7 : Addr) (q0 q1 : Int64) (z101 z201 z301 z102 z202 z302 z103 z203 z303 : Int32) (p4 p5 : Int32) (C : Int) (h4 : 0 ≤ p4.toInt ∧ p4.toInt ≤ p5.toInt ∧ p5.toInt < C) (hC : C ≤ 128) (e0 : Fre (P0 C) 0 q0) (e1 : Fre (P0 C) 1 q1) (s1 : Sm (P0 C) 0 128 z101.toInt z201.toInt z301.toInt) (s2 : Sm (P0 C) 0 64 z102.toInt z202.toInt z302.toInt) (s3 : Sm (P0 C) 64 128 z103.toInt z203.toInt z303.toInt) :
    Met Btk2 Z a0 h0 #[(.ref a1), (.int p4), (.int p5)] (M2 a1 a2 a3 a4 a5 a6 a7 q0 q1 z101 z201 z301 z102 z202 z302 z103 z203 z303 (0 : Int32)) (fun v ds => ∃ (x0 x1 : Int64) (y20 y21 y22 y30 y31 y32 y13 : Int32), Inv2 (P1 p4.toInt (p5.toInt + 1) C) x0 x1 z101 z201 z301 y20 y21 y22 y30 y31 y32 y13 ∧ Ret none (M2 a1 a2 a3 a4 a5 a6 a7 x0 x1 z101 z201 z301 y20 y21 y22 y30 y31 y32 y13) v ds) := by
  refine Met.of pn12 (ls := #[.val (.ref a1), .val (.int p4), .val (.int p5), .unset, .unset, .unset, .unset, .unset]) (fun m => by first | (simp [entryFrame, mkF, argsToLocals, Value.category, Btk2]; done) | rfl) ?_
  show Go Btk2 Z a0 h0 _ 0 0 (M2 a1 a2 a3 a4 a5 a6 a7 q0 q1 z101 z201 z301 z102 z202 z302 z103 z203 z303 (0 : Int32)) 0 #[.val (.ref a1), .val (.int p4), .val (.int p5), .unset, .unset, .unset, .unset, .unset] []
  have e0_ : (0 : Int32).toInt = 0 := rfl; have e63_ : (63 : Int32).toInt = 63 := rfl
  have ea := (c_idiv p4 (64 : Int32) 64 rfl (by decide)).1 (by omega); have eb := (c_idiv p5 (64 : Int32) 64 rfl (by decide)).1 (by omega)
  have ra := (c_irem p4 (64 : Int32) 64 rfl).1 (by omega); have rb := (c_irem p5 (64 : Int32) 64 rfl).1 (by omega)
  refine go_iloadN 1 rfl d12_0 rfl ?_
  refine go_bipush (64 : Int32) 3 rfl d12_1 rfl ?_
  refine go_idiv 4 rfl d12_3 rfl (by decide) ?_
  have ha : (p4 / (64 : Int32)) = (0 : Int32) ∨ (p4 / (64 : Int32)) = (1 : Int32) := by
    have : (p4 / (64 : Int32)).toInt = 0 ∨ (p4 / (64 : Int32)).toInt = 1 := by omega
    rcases this with q | q
    · exact Or.inl (i32_of q rfl)
    · exact Or.inr (i32_of q rfl)
  rcases ha with ha | ha
  · rw [ha]
    have gha := congrArg Int32.toInt ha; have lha : (0 : Int32).toInt = 0 := rfl
    refine go_istoreN #[.val (.ref a1), .val (.int p4), .val (.int p5), .val (.int (0 : Int32)), .unset, .unset, .unset, .unset] 5 rfl d12_4 rfl rfl ?_
    refine go_iloadN 6 rfl d12_5 rfl ?_
    refine go_bipush (64 : Int32) 8 rfl d12_6 rfl ?_
    refine go_idiv 9 rfl d12_8 rfl (by decide) ?_
    have hb : (p5 / (64 : Int32)) = (0 : Int32) ∨ (p5 / (64 : Int32)) = (1 : Int32) := by
      have : (p5 / (64 : Int32)).toInt = 0 ∨ (p5 / (64 : Int32)).toInt = 1 := by omega
      rcases this with q | q
      · exact Or.inl (i32_of q rfl)
      · exact Or.inr (i32_of q rfl)
    rcases hb with hb | hb
    · rw [hb]
      have ghb := congrArg Int32.toInt hb; have lhb : (0 : Int32).toInt = 0 := rfl
      refine go_istore #[.val (.ref a1), .val (.int p4), .val (.int p5), .val (.int (0 : Int32)), .val (.int (0 : Int32)), .unset, .unset, .unset] 11 rfl d12_9 rfl rfl ?_
      refine go_iloadN 12 rfl d12_11 rfl ?_
      refine go_istore #[.val (.ref a1), .val (.int p4), .val (.int p5), .val (.int (0 : Int32)), .val (.int (0 : Int32)), .val (.int (0 : Int32)), .unset, .unset] 14 rfl d12_12 rfl rfl ?_
      refine go_iload 16 rfl d12_14 rfl ?_
      refine go_iload 18 rfl d12_16 rfl ?_
      refine go_icmp 92 21 rfl (by decide) rfl d12_18 rfl (fun (hc18 : (0 : Int) < (0 : Int)) => absurd hc18 (by decide)) (fun (hc18 : ¬ ((0 : Int) < (0 : Int))) => ?_)
      refine go_iload 23 rfl d12_21 rfl ?_
      refine go_iloadN 24 rfl d12_23 rfl ?_
      refine go_icmp 34 27 rfl (by decide) rfl d12_24 rfl (fun (hc24 : (0 : Int) ≠ (0 : Int)) => absurd hc24 (by decide)) (fun (hc24 : ¬ ((0 : Int) ≠ (0 : Int))) => ?_)
      refine go_iloadN 28 rfl d12_27 rfl ?_
      refine go_bipush (64 : Int32) 30 rfl d12_28 rfl ?_
      refine go_irem 31 rfl d12_30 rfl (by decide) ?_
      generalize er : p4 % (64 : Int32) = p8 at ra ⊢
      refine go_goto 35 (by decide) rfl d12_31 ?_
      refine go_istore #[.val (.ref a1), .val (.int p4), .val (.int p5), .val (.int (0 : Int32)), .val (.int (0 : Int32)), .val (.int (0 : Int32)), .val (.int p8), .unset] 37 rfl d12_35 rfl rfl ?_
      refine go_iload 39 rfl d12_37 rfl ?_
      refine go_iload 41 rfl d12_39 rfl ?_
      refine go_icmp 51 44 rfl (by decide) rfl d12_41 rfl (fun (hc41 : (0 : Int) ≠ (0 : Int)) => absurd hc41 (by decide)) (fun (hc41 : ¬ ((0 : Int) ≠ (0 : Int))) => ?_)
      refine go_iloadN 45 rfl d12_44 rfl ?_
      refine go_bipush (64 : Int32) 47 rfl d12_45 rfl ?_
      refine go_irem 48 rfl d12_47 rfl (by decide) ?_
      generalize er2 : p5 % (64 : Int32) = p9 at rb ⊢
      refine go_goto 53 (by decide) rfl d12_48 ?_
      refine go_istore #[.val (.ref a1), .val (.int p4), .val (.int p5), .val (.int (0 : Int32)), .val (.int (0 : Int32)), .val (.int (0 : Int32)), .val (.int p8), .val (.int p9)] 55 rfl d12_53 rfl rfl ?_
      refine go_aloadN 56 rfl d12_55 rfl rfl ?_
      refine go_get 0 1 59 rfl d12_56 rfl rfl rfl (wd hw 30 rfl) ?_
      refine go_iload 61 rfl d12_59 rfl ?_
      refine go_dup2 62 rfl d12_61 rfl rfl rfl ?_
      refine go_laload 63 rfl d12_62 rfl (Mo.el (i := 1) rfl (by decide) rfl) ?_
      refine go_ldc2 (v := (-1 : Int64)) 66 rfl d12_63 (wd hw 44 rfl) ?_
      refine go_bipush (63 : Int32) 68 rfl d12_66 rfl ?_
      refine go_iload 70 rfl d12_68 rfl ?_
      refine go_isub 71 rfl d12_70 rfl ?_
      have fa1 : ((63 : Int32) - p9).toInt = (63 : Int) - p9.toInt := subE rfl rfl (by omega)
      refine go_iload 73 rfl d12_71 rfl ?_
      refine go_iadd 74 rfl d12_73 rfl ?_
      have fa2 : (((63 : Int32) - p9) + p8).toInt = ((63 : Int32) - p9).toInt + p8.toInt := addE rfl rfl (by omega)
      refine go_lushr 75 rfl d12_74 rfl ?_
      refine go_iload 77 rfl d12_75 rfl ?_
      refine go_lshl 78 rfl d12_77 rfl ?_
      refine go_lor 79 rfl d12_78 rfl ?_
      show Go Btk2 Z a0 h0 _ 0 0 (M2 a1 a2 a3 a4 a5 a6 a7 q0 q1 z101 z201 z301 z102 z202 z302 z103 z203 z303 (0 : Int32)) 79 #[.val (.ref a1), .val (.int p4), .val (.int p5), .val (.int (0 : Int32)), .val (.int (0 : Int32)), .val (.int (0 : Int32)), .val (.int p8), .val (.int p9)] [(.long (q0 ||| ((((-1 : Int64).toUInt64 >>> ((((63 : Int32) - p9) + p8) &&& 0x3f).toInt64.toUInt64).toInt64) <<< (p8 &&& 0x3f).toInt64))), (.int (0 : Int32)), (.ref a2)]
      have hx0 : Fre (P1 p4.toInt (p5.toInt + 1) C) 0 (q0 ||| ((((-1 : Int64).toUInt64 >>> ((((63 : Int32) - p9) + p8) &&& 0x3f).toInt64.toUInt64).toInt64) <<< (p8 &&& 0x3f).toInt64)) := fre_take (u := p8) (v := p9) (d := (((63 : Int32) - p9) + p8)) e0 (by omega) (by omega) (by first | omega | decide) (by first | omega | decide) (by first | omega | decide) (by first | omega | decide) (by first | omega | decide) (by first | omega | decide)
      generalize (q0 ||| ((((-1 : Int64).toUInt64 >>> ((((63 : Int32) - p9) + p8) &&& 0x3f).toInt64.toUInt64).toInt64) <<< (p8 &&& 0x3f).toInt64)) = q70 at hx0 ⊢
      refine go_lastore 1 80 rfl d12_79 rfl rfl (by decide) (lbe rfl) ?_
      refine go_aloadN 81 rfl d12_80 rfl rfl ?_
      refine go_iload 83 rfl d12_81 rfl ?_
      refine go_callP (host := "") 86 rfl d12_83 (Or.inl (wd hw 67 rfl)) (wd hw 68 rfl) (wd hw 69 rfl) (wd hw 9 rfl) (wd hw 10 rfl) (wd hw 70 rfl) (by decide) (Mo.exa (i := 0) rfl) (m_chg2_0_00 Z a0 hw h0 (P1 p4.toInt (p5.toInt + 1) C) a1 a2 a3 a4 a5 a6 a7 [(.long q70), (.long q1)] [(.long (0 : Int64)), (.long (0 : Int64))] [(.int (0 : Int32)), (.int z101), (.int z102), (.int z103)] [(.int (0 : Int32)), (.int z201), (.int z202), (.int z203)] [(.int (0 : Int32)), (.int z301), (.int z302), (.int z303)] q70 rfl rfl hx0 (lbe rfl) (lbe rfl) (lbe rfl)) (argsL := [(.int (0 : Int32))]) (rest := []) rfl (ps := [.int]) (by decide +kernel) rfl rfl 0 rfl (by decide) (by decide) (by decide) (by decide) ?_
      rintro _ _ ⟨z691, z692, z693, hz691, rfl, rfl⟩
      show Go Btk2 Z a0 h0 _ 0 0 (M2 a1 a2 a3 a4 a5 a6 a7 q70 q1 z101 z201 z301 z691 z692 z693 z103 z203 z303 (1 : Int32)) 86 #[.val (.ref a1), .val (.int p4), .val (.int p5), .val (.int (0 : Int32)), .val (.int (0 : Int32)), .val (.int (0 : Int32)), .val (.int p8), .val (.int p9)] []
      refine go_iinc #[.val (.ref a1), .val (.int p4), .val (.int p5), .val (.int (0 : Int32)), .val (.int (0 : Int32)), .val (.int (1 : Int32)), .val (.int p8), .val (.int p9)] 89 rfl d12_86 rfl rfl ?_
      refine go_goto 14 (by decide) rfl d12_89 ?_
      refine go_iload 16 rfl d12_14 rfl ?_
      refine go_iload 18 rfl d12_16 rfl ?_
      refine go_icmp 92 21 rfl (by decide) rfl d12_18 rfl (fun (hc18 : (0 : Int) < (1 : Int)) => ?_) (fun (hc18 : ¬ ((0 : Int) < (1 : Int))) => absurd hc18 (by decide))
      exact go_return d12_92 rfl rfl (by decide) (by decide) ⟨_, _, _, _, _, _, _, _, _, Inv2.mk (hx0) (fre_out e1 (by omega) (by omega) (by omega)) (hz691) (sm_out s3 (by omega) (by omega) (by omega)) (fun h => absurd h (by decide)), rfl, rfl⟩
    · rw [hb]
      have ghb := congrArg Int32.toInt hb; have lhb : (1 : Int32).toInt = 1 := rfl
      refine go_istore #[.val (.ref a1), .val (.int p4), .val (.int p5), .val (.int (0 : Int32)), .val (.int (1 : Int32)), .unset, .unset, .unset] 11 rfl d12_9 rfl rfl ?_
      refine go_iloadN 12 rfl d12_11 rfl ?_
      refine go_istore #[.val (.ref a1), .val (.int p4), .val (.int p5), .val (.int (0 : Int32)), .val (.int (1 : Int32)), .val (.int (0 : Int32)), .unset, .unset] 14 rfl d12_12 rfl rfl ?_
      refine go_iload 16 rfl d12_14 rfl ?_
      refine go_iload 18 rfl d12_16 rfl ?_
      refine go_icmp 92 21 rfl (by decide) rfl d12_18 rfl (fun (hc18 : (1 : Int) < (0 : Int)) => absurd hc18 (by decide)) (fun (hc18 : ¬ ((1 : Int) < (0 : Int))) => ?_)
      refine go_iload 23 rfl d12_21 rfl ?_
      refine go_iloadN 24 rfl d12_23 rfl ?_
      refine go_icmp 34 27 rfl (by decide) rfl d12_24 rfl (fun (hc24 : (0 : Int) ≠ (0 : Int)) => absurd hc24 (by decide)) (fun (hc24 : ¬ ((0 : Int) ≠ (0 : Int))) => ?_)
      refine go_iloadN 28 rfl d12_27 rfl ?_
      refine go_bipush (64 : Int32) 30 rfl d12_28 rfl ?_
      refine go_irem 31 rfl d12_30 rfl (by decide) ?_
      generalize er : p4 % (64 : Int32) = p8 at ra ⊢
      refine go_goto 35 (by decide) rfl d12_31 ?_
      refine go_istore #[.val (.ref a1), .val (.int p4), .val (.int p5), .val (.int (0 : Int32)), .val (.int (1 : Int32)), .val (.int (0 : Int32)), .val (.int p8), .unset] 37 rfl d12_35 rfl rfl ?_
      refine go_iload 39 rfl d12_37 rfl ?_
      refine go_iload 41 rfl d12_39 rfl ?_
      refine go_icmp 51 44 rfl (by decide) rfl d12_41 rfl (fun (hc41 : (0 : Int) ≠ (1 : Int)) => ?_) (fun (hc41 : ¬ ((0 : Int) ≠ (1 : Int))) => absurd hc41 (by decide))
      refine go_bipush (63 : Int32) 53 rfl d12_51 rfl ?_
      refine go_istore #[.val (.ref a1), .val (.int p4), .val (.int p5), .val (.int (0 : Int32)), .val (.int (1 : Int32)), .val (.int (0 : Int32)), .val (.int p8), .val (.int (63 : Int32))] 55 rfl d12_53 rfl rfl ?_
      refine go_aloadN 56 rfl d12_55 rfl rfl ?_
      refine go_get 0 1 59 rfl d12_56 rfl rfl rfl (wd hw 30 rfl) ?_
      refine go_iload 61 rfl d12_59 rfl ?_
      refine go_dup2 62 rfl d12_61 rfl rfl rfl ?_
      refine go_laload 63 rfl d12_62 rfl (Mo.el (i := 1) rfl (by decide) rfl) ?_
      refine go_ldc2 (v := (-1 : Int64)) 66 rfl d12_63 (wd hw 44 rfl) ?_
      refine go_bipush (63 : Int32) 68 rfl d12_66 rfl ?_
      refine go_iload 70 rfl d12_68 rfl ?_
      refine go_isub 71 rfl d12_70 rfl ?_
      refine go_iload 73 rfl d12_71 rfl ?_
      refine go_iadd 74 rfl d12_73 rfl ?_
      have fa3 : ((0 : Int32) + p8).toInt = (0 : Int) + p8.toInt := addE rfl rfl (by omega)
      refine go_lushr 75 rfl d12_74 rfl ?_
      refine go_iload 77 rfl d12_75 rfl ?_
      refine go_lshl 78 rfl d12_77 rfl ?_
      refine go_lor 79 rfl d12_78 rfl ?_
      show Go Btk2 Z a0 h0 _ 0 0 (M2 a1 a2 a3 a4 a5 a6 a7 q0 q1 z101 z201 z301 z102 z202 z302 z103 z203 z303 (0 : Int32)) 79 #[.val (.ref a1), .val (.int p4), .val (.int p5), .val (.int (0 : Int32)), .val (.int (1 : Int32)), .val (.int (0 : Int32)), .val (.int p8), .val (.int (63 : Int32))] [(.long (q0 ||| ((((-1 : Int64).toUInt64 >>> (((0 : Int32) + p8) &&& 0x3f).toInt64.toUInt64).toInt64) <<< (p8 &&& 0x3f).toInt64))), (.int (0 : Int32)), (.ref a2)]
      have hx0 : Fre (P1 p4.toInt (p5.toInt + 1) C) 0 (q0 ||| ((((-1 : Int64).toUInt64 >>> (((0 : Int32) + p8) &&& 0x3f).toInt64.toUInt64).toInt64) <<< (p8 &&& 0x3f).toInt64)) := fre_take (u := p8) (v := (63 : Int32)) (d := ((0 : Int32) + p8)) e0 (by omega) (by omega) (by first | omega | decide) (by first | omega | decide) (by first | omega | decide) (by first | omega | decide) (by first | omega | decide) (by first | omega | decide)
      generalize (q0 ||| ((((-1 : Int64).toUInt64 >>> (((0 : Int32) + p8) &&& 0x3f).toInt64.toUInt64).toInt64) <<< (p8 &&& 0x3f).toInt64)) = q70 at hx0 ⊢
      refine go_lastore 1 80 rfl d12_79 rfl rfl (by decide) (lbe rfl) ?_
      refine go_aloadN 81 rfl d12_80 rfl rfl ?_
      refine go_iload 83 rfl d12_81 rfl ?_
      refine go_callP (host := "") 86 rfl d12_83 (Or.inl (wd hw 67 rfl)) (wd hw 68 rfl) (wd hw 69 rfl) (wd hw 9 rfl) (wd hw 10 rfl) (wd hw 70 rfl) (by decide) (Mo.exa (i := 0) rfl) (m_chg2_0_00 Z a0 hw h0 (P1 p4.toInt (p5.toInt + 1) C) a1 a2 a3 a4 a5 a6 a7 [(.long q70), (.long q1)] [(.long (0 : Int64)), (.long (0 : Int64))] [(.int (0 : Int32)), (.int z101), (.int z102), (.int z103)] [(.int (0 : Int32)), (.int z201), (.int z202), (.int z203)] [(.int (0 : Int32)), (.int z301), (.int z302), (.int z303)] q70 rfl rfl hx0 (lbe rfl) (lbe rfl) (lbe rfl)) (argsL := [(.int (0 : Int32))]) (rest := []) rfl (ps := [.int]) (by decide +kernel) rfl rfl 0 rfl (by decide) (by decide) (by decide) (by decide) ?_
      rintro _ _ ⟨z694, z695, z696, hz694, rfl, rfl⟩
      show Go Btk2 Z a0 h0 _ 0 0 (M2 a1 a2 a3 a4 a5 a6 a7 q70 q1 z101 z201 z301 z694 z695 z696 z103 z203 z303 (1 : Int32)) 86 #[.val (.ref a1), .val (.int p4), .val (.int p5), .val (.int (0 : Int32)), .val (.int (1 : Int32)), .val (.int (0 : Int32)), .val (.int p8), .val (.int (63 : Int32))] []
      refine go_iinc #[.val (.ref a1), .val (.int p4), .val (.int p5), .val (.int (0 : Int32)), .val (.int (1 : Int32)), .val (.int (1 : Int32)), .val (.int p8), .val (.int (63 : Int32))] 89 rfl d12_86 rfl rfl ?_
      refine go_goto 14 (by decide) rfl d12_89 ?_
      refine go_iload 16 rfl d12_14 rfl ?_
      refine go_iload 18 rfl d12_16 rfl ?_
      refine go_icmp 92 21 rfl (by decide) rfl d12_18 rfl (fun (hc18 : (1 : Int) < (1 : Int)) => absurd hc18 (by decide)) (fun (hc18 : ¬ ((1 : Int) < (1 : Int))) => ?_)
      refine go_iload 23 rfl d12_21 rfl ?_
      refine go_iloadN 24 rfl d12_23 rfl ?_
      refine go_icmp 34 27 rfl (by decide) rfl d12_24 rfl (fun (hc24 : (1 : Int) ≠ (0 : Int)) => ?_) (fun (hc24 : ¬ ((1 : Int) ≠ (0 : Int))) => absurd hc24 (by decide))
      refine go_iconst (0 : Int32) 35 rfl d12_34 rfl ?_
      refine go_istore #[.val (.ref a1), .val (.int p4), .val (.int p5), .val (.int (0 : Int32)), .val (.int (1 : Int32)), .val (.int (1 : Int32)), .val (.int (0 : Int32)), .val (.int (63 : Int32))] 37 rfl d12_35 rfl rfl ?_
      refine go_iload 39 rfl d12_37 rfl ?_
      refine go_iload 41 rfl d12_39 rfl ?_
      refine go_icmp 51 44 rfl (by decide) rfl d12_41 rfl (fun (hc41 : (1 : Int) ≠ (1 : Int)) => absurd hc41 (by decide)) (fun (hc41 : ¬ ((1 : Int) ≠ (1 : Int))) => ?_)
      refine go_iloadN 45 rfl d12_44 rfl ?_
      refine go_bipush (64 : Int32) 47 rfl d12_45 rfl ?_
      refine go_irem 48 rfl d12_47 rfl (by decide) ?_
      generalize er2 : p5 % (64 : Int32) = p9 at rb ⊢
      refine go_goto 53 (by decide) rfl d12_48 ?_
      refine go_istore #[.val (.ref a1), .val (.int p4), .val (.int p5), .val (.int (0 : Int32)), .val (.int (1 : Int32)), .val (.int (1 : Int32)), .val (.int (0 : Int32)), .val (.int p9)] 55 rfl d12_53 rfl rfl ?_
      refine go_aloadN 56 rfl d12_55 rfl rfl ?_
      refine go_get 0 1 59 rfl d12_56 rfl rfl rfl (wd hw 30 rfl) ?_
      refine go_iload 61 rfl d12_59 rfl ?_
      refine go_dup2 62 rfl d12_61 rfl rfl rfl ?_
      refine go_laload 63 rfl d12_62 rfl (Mo.el (i := 1) rfl (by decide) rfl) ?_
      refine go_ldc2 (v := (-1 : Int64)) 66 rfl d12_63 (wd hw 44 rfl) ?_
      refine go_bipush (63 : Int32) 68 rfl d12_66 rfl ?_
      refine go_iload 70 rfl d12_68 rfl ?_
      refine go_isub 71 rfl d12_70 rfl ?_
      have fa4 : ((63 : Int32) - p9).toInt = (63 : Int) - p9.toInt := subE rfl rfl (by omega)
      refine go_iload 73 rfl d12_71 rfl ?_
      refine go_iadd 74 rfl d12_73 rfl ?_
      have fa5 : (((63 : Int32) - p9) + (0 : Int32)).toInt = ((63 : Int32) - p9).toInt + (0 : Int) := addE rfl rfl (by omega)
      refine go_lushr 75 rfl d12_74 rfl ?_
      refine go_iload 77 rfl d12_75 rfl ?_
      refine go_lshl 78 rfl d12_77 rfl ?_
      refine go_lor 79 rfl d12_78 rfl ?_
      show Go Btk2 Z a0 h0 _ 0 0 (M2 a1 a2 a3 a4 a5 a6 a7 q70 q1 z101 z201 z301 z694 z695 z696 z103 z203 z303 (1 : Int32)) 79 #[.val (.ref a1), .val (.int p4), .val (.int p5), .val (.int (0 : Int32)), .val (.int (1 : Int32)), .val (.int (1 : Int32)), .val (.int (0 : Int32)), .val (.int p9)] [(.long (q1 ||| ((((-1 : Int64).toUInt64 >>> ((((63 : Int32) - p9) + (0 : Int32)) &&& 0x3f).toInt64.toUInt64).toInt64) <<< ((0 : Int32) &&& 0x3f).toInt64))), (.int (1 : Int32)), (.ref a2)]
      have hx1 : Fre (P1 p4.toInt (p5.toInt + 1) C) 1 (q1 ||| ((((-1 : Int64).toUInt64 >>> ((((63 : Int32) - p9) + (0 : Int32)) &&& 0x3f).toInt64.toUInt64).toInt64) <<< ((0 : Int32) &&& 0x3f).toInt64)) := fre_take (u := (0 : Int32)) (v := p9) (d := (((63 : Int32) - p9) + (0 : Int32))) e1 (by omega) (by omega) (by first | omega | decide) (by first | omega | decide) (by first | omega | decide) (by first | omega | decide) (by first | omega | decide) (by first | omega | decide)
      generalize (q1 ||| ((((-1 : Int64).toUInt64 >>> ((((63 : Int32) - p9) + (0 : Int32)) &&& 0x3f).toInt64.toUInt64).toInt64) <<< ((0 : Int32) &&& 0x3f).toInt64)) = q71 at hx1 ⊢
      refine go_lastore 1 80 rfl d12_79 rfl rfl (by decide) (lbe rfl) ?_
      refine go_aloadN 81 rfl d12_80 rfl rfl ?_
      refine go_iload 83 rfl d12_81 rfl ?_
      refine go_callP (host := "") 86 rfl d12_83 (Or.inl (wd hw 67 rfl)) (wd hw 68 rfl) (wd hw 69 rfl) (wd hw 9 rfl) (wd hw 10 rfl) (wd hw 70 rfl) (by decide) (Mo.exa (i := 0) rfl) (m_chg2_1_01 Z a0 hw h0 (P1 p4.toInt (p5.toInt + 1) C) a1 a2 a3 a4 a5 a6 a7 [(.long q70), (.long q71)] [(.long (0 : Int64)), (.long (0 : Int64))] [(.int (0 : Int32)), (.int z101), (.int z694), (.int z103)] [(.int (0 : Int32)), (.int z201), (.int z695), (.int z203)] [(.int (0 : Int32)), (.int z301), (.int z696), (.int z303)] q71 rfl rfl hx1 (lbe rfl) (lbe rfl) (lbe rfl)) (argsL := [(.int (1 : Int32))]) (rest := []) rfl (ps := [.int]) (by decide +kernel) rfl rfl 0 rfl (by decide) (by decide) (by decide) (by decide) ?_
      rintro _ _ ⟨z697, z698, z699, hz697, rfl, rfl⟩
      show Go Btk2 Z a0 h0 _ 0 0 (M2 a1 a2 a3 a4 a5 a6 a7 q70 q71 z101 z201 z301 z694 z695 z696 z697 z698 z699 (1 : Int32)) 86 #[.val (.ref a1), .val (.int p4), .val (.int p5), .val (.int (0 : Int32)), .val (.int (1 : Int32)), .val (.int (1 : Int32)), .val (.int (0 : Int32)), .val (.int p9)] []
      refine go_iinc #[.val (.ref a1), .val (.int p4), .val (.int p5), .val (.int (0 : Int32)), .val (.int (1 : Int32)), .val (.int (2 : Int32)), .val (.int (0 : Int32)), .val (.int p9)] 89 rfl d12_86 rfl rfl ?_
      refine go_goto 14 (by decide) rfl d12_89 ?_
      refine go_iload 16 rfl d12_14 rfl ?_
      refine go_iload 18 rfl d12_16 rfl ?_
      refine go_icmp 92 21 rfl (by decide) rfl d12_18 rfl (fun (hc18 : (1 : Int) < (2 : Int)) => ?_) (fun (hc18 : ¬ ((1 : Int) < (2 : Int))) => absurd hc18 (by decide))
      exact go_return d12_92 rfl rfl (by decide) (by decide) ⟨_, _, _, _, _, _, _, _, _, Inv2.mk (hx0) (hx1) (hz694) (hz697) (fun h => absurd h (by decide)), rfl, rfl⟩
  · rw [ha]
    have gha := congrArg Int32.toInt ha; have lha : (1 : Int32).toInt = 1 := rfl
    refine go_istoreN #[.val (.ref a1), .val (.int p4), .val (.int p5), .val (.int (1 : Int32)), .unset, .unset, .unset, .unset] 5 rfl d12_4 rfl rfl ?_
    refine go_iloadN 6 rfl d12_5 rfl ?_
    refine go_bipush (64 : Int32) 8 rfl d12_6 rfl ?_
    refine go_idiv 9 rfl d12_8 rfl (by decide) ?_
    have hb : (p5 / (64 : Int32)) = (1 : Int32) := i32_of (k := 1) (by omega) rfl
    rw [hb]
    show Go Btk2 Z a0 h0 _ 0 0 (M2 a1 a2 a3 a4 a5 a6 a7 q0 q1 z101 z201 z301 z102 z202 z302 z103 z203 z303 (0 : Int32)) 9 #[.val (.ref a1), .val (.int p4), .val (.int p5), .val (.int (1 : Int32)), .unset, .unset, .unset, .unset] [(.int (1 : Int32))]
    have ghb := congrArg Int32.toInt hb; have lhb : (1 : Int32).toInt = 1 := rfl
    refine go_istore #[.val (.ref a1), .val (.int p4), .val (.int p5), .val (.int (1 : Int32)), .val (.int (1 : Int32)), .unset, .unset, .unset] 11 rfl d12_9 rfl rfl ?_
    refine go_iloadN 12 rfl d12_11 rfl ?_
    refine go_istore #[.val (.ref a1), .val (.int p4), .val (.int p5), .val (.int (1 : Int32)), .val (.int (1 : Int32)), .val (.int (1 : Int32)), .unset, .unset] 14 rfl d12_12 rfl rfl ?_
    refine go_iload 16 rfl d12_14 rfl ?_
    refine go_iload 18 rfl d12_16 rfl ?_
    refine go_icmp 92 21 rfl (by decide) rfl d12_18 rfl (fun (hc18 : (1 : Int) < (1 : Int)) => absurd hc18 (by decide)) (fun (hc18 : ¬ ((1 : Int) < (1 : Int))) => ?_)
    refine go_iload 23 rfl d12_21 rfl ?_
    refine go_iloadN 24 rfl d12_23 rfl ?_
    refine go_icmp 34 27 rfl (by decide) rfl d12_24 rfl (fun (hc24 : (1 : Int) ≠ (1 : Int)) => absurd hc24 (by decide)) (fun (hc24 : ¬ ((1 : Int) ≠ (1 : Int))) => ?_)
    refine go_iloadN 28 rfl d12_27 rfl ?_
    refine go_bipush (64 : Int32) 30 rfl d12_28 rfl ?_
    refine go_irem 31 rfl d12_30 rfl (by decide) ?_
    generalize er : p4 % (64 : Int32) = p8 at ra ⊢
    refine go_goto 35 (by decide) rfl d12_31 ?_
    refine go_istore #[.val (.ref a1), .val (.int p4), .val (.int p5), .val (.int (1 : Int32)), .val (.int (1 : Int32)), .val (.int (1 : Int32)), .val (.int p8), .unset] 37 rfl d12_35 rfl rfl ?_
    refine go_iload 39 rfl d12_37 rfl ?_
    refine go_iload 41 rfl d12_39 rfl ?_
    refine go_icmp 51 44 rfl (by decide) rfl d12_41 rfl (fun (hc41 : (1 : Int) ≠ (1 : Int)) => absurd hc41 (by decide)) (fun (hc41 : ¬ ((1 : Int) ≠ (1 : Int))) => ?_)
    refine go_iloadN 45 rfl d12_44 rfl ?_
    refine go_bipush (64 : Int32) 47 rfl d12_45 rfl ?_
    refine go_irem 48 rfl d12_47 rfl (by decide) ?_
    generalize er2 : p5 % (64 : Int32) = p9 at rb ⊢
    refine go_goto 53 (by decide) rfl d12_48 ?_
    refine go_istore #[.val (.ref a1), .val (.int p4), .val (.int p5), .val (.int (1 : Int32)), .val (.int (1 : Int32)), .val (.int (1 : Int32)), .val (.int p8), .val (.int p9)] 55 rfl d12_53 rfl rfl ?_
    refine go_aloadN 56 rfl d12_55 rfl rfl ?_
    refine go_get 0 1 59 rfl d12_56 rfl rfl rfl (wd hw 30 rfl) ?_
    refine go_iload 61 rfl d12_59 rfl ?_
    refine go_dup2 62 rfl d12_61 rfl rfl rfl ?_
    refine go_laload 63 rfl d12_62 rfl (Mo.el (i := 1) rfl (by decide) rfl) ?_
    refine go_ldc2 (v := (-1 : Int64)) 66 rfl d12_63 (wd hw 44 rfl) ?_
    refine go_bipush (63 : Int32) 68 rfl d12_66 rfl ?_
    refine go_iload 70 rfl d12_68 rfl ?_
    refine go_isub 71 rfl d12_70 rfl ?_
    have fa6 : ((63 : Int32) - p9).toInt = (63 : Int) - p9.toInt := subE rfl rfl (by omega)
    refine go_iload 73 rfl d12_71 rfl ?_
    refine go_iadd 74 rfl d12_73 rfl ?_
    have fa7 : (((63 : Int32) - p9) + p8).toInt = ((63 : Int32) - p9).toInt + p8.toInt := addE rfl rfl (by omega)
    refine go_lushr 75 rfl d12_74 rfl ?_
    refine go_iload 77 rfl d12_75 rfl ?_
    refine go_lshl 78 rfl d12_77 rfl ?_
    refine go_lor 79 rfl d12_78 rfl ?_
    show Go Btk2 Z a0 h0 _ 0 0 (M2 a1 a2 a3 a4 a5 a6 a7 q0 q1 z101 z201 z301 z102 z202 z302 z103 z203 z303 (0 : Int32)) 79 #[.val (.ref a1), .val (.int p4), .val (.int p5), .val (.int (1 : Int32)), .val (.int (1 : Int32)), .val (.int (1 : Int32)), .val (.int p8), .val (.int p9)] [(.long (q1 ||| ((((-1 : Int64).toUInt64 >>> ((((63 : Int32) - p9) + p8) &&& 0x3f).toInt64.toUInt64).toInt64) <<< (p8 &&& 0x3f).toInt64))), (.int (1 : Int32)), (.ref a2)]
    have hx1 : Fre (P1 p4.toInt (p5.toInt + 1) C) 1 (q1 ||| ((((-1 : Int64).toUInt64 >>> ((((63 : Int32) - p9) + p8) &&& 0x3f).toInt64.toUInt64).toInt64) <<< (p8 &&& 0x3f).toInt64)) := fre_take (u := p8) (v := p9) (d := (((63 : Int32) - p9) + p8)) e1 (by omega) (by omega) (by first | omega | decide) (by first | omega | decide) (by first | omega | decide) (by first | omega | decide) (by first | omega | decide) (by first | omega | decide)
    generalize (q1 ||| ((((-1 : Int64).toUInt64 >>> ((((63 : Int32) - p9) + p8) &&& 0x3f).toInt64.toUInt64).toInt64) <<< (p8 &&& 0x3f).toInt64)) = q71 at hx1 ⊢
    refine go_lastore 1 80 rfl d12_79 rfl rfl (by decide) (lbe rfl) ?_
    refine go_aloadN 81 rfl d12_80 rfl rfl ?_
    refine go_iload 83 rfl d12_81 rfl ?_
    refine go_callP (host := "") 86 rfl d12_83 (Or.inl (wd hw 67 rfl)) (wd hw 68 rfl) (wd hw 69 rfl) (wd hw 9 rfl) (wd hw 10 rfl) (wd hw 70 rfl) (by decide) (Mo.exa (i := 0) rfl) (m_chg2_1_00 Z a0 hw h0 (P1 p4.toInt (p5.toInt + 1) C) a1 a2 a3 a4 a5 a6 a7 [(.long q0), (.long q71)] [(.long (0 : Int64)), (.long (0 : Int64))] [(.int (0 : Int32)), (.int z101), (.int z102), (.int z103)] [(.int (0 : Int32)), (.int z201), (.int z202), (.int z203)] [(.int (0 : Int32)), (.int z301), (.int z302), (.int z303)] q71 rfl rfl hx1 (lbe rfl) (lbe rfl) (lbe rfl)) (argsL := [(.int (1 : Int32))]) (rest := []) rfl (ps := [.int]) (by decide +kernel) rfl rfl 0 rfl (by decide) (by decide) (by decide) (by decide) ?_
    rintro _ _ ⟨z700, z701, z702, hz700, rfl, rfl⟩
    show Go Btk2 Z a0 h0 _ 0 0 (M2 a1 a2 a3 a4 a5 a6 a7 q0 q71 z101 z201 z301 z102 z202 z302 z700 z701 z702 (1 : Int32)) 86 #[.val (.ref a1), .val (.int p4), .val (.int p5), .val (.int (1 : Int32)), .val (.int (1 : Int32)), .val (.int (1 : Int32)), .val (.int p8), .val (.int p9)] []
    refine go_iinc #[.val (.ref a1), .val (.int p4), .val (.int p5), .val (.int (1 : Int32)), .val (.int (1 : Int32)), .val (.int (2 : Int32)), .val (.int p8), .val (.int p9)] 89 rfl d12_86 rfl rfl ?_
    refine go_goto 14 (by decide) rfl d12_89 ?_
    refine go_iload 16 rfl d12_14 rfl ?_
    refine go_iload 18 rfl d12_16 rfl ?_
    refine go_icmp 92 21 rfl (by decide) rfl d12_18 rfl (fun (hc18 : (1 : Int) < (2 : Int)) => ?_) (fun (hc18 : ¬ ((1 : Int) < (2 : Int))) => absurd hc18 (by decide))
    exact go_return d12_92 rfl rfl (by decide) (by decide) ⟨_, _, _, _, _, _, _, _, _, Inv2.mk (fre_out e0 (by omega) (by omega) (by omega)) (hx1) (sm_out s2 (by omega) (by omega) (by omega)) (hz700) (fun h => absurd h (by decide)), rfl, rfl⟩
def Bchg4_0_0000 : Bdy := (⟨"com/example/clauseline/clauseline/service/TakenPieces", "changed", "(I)V"⟩, prog_101_method_5_code, 3, none, ({ frames := 4, cells := 0, slots := 0, locals := 67 } : Room))
theorem m_chg4_0_0000 (Z : State) (a0 : Array Value) (hw : ∀ d ∈ tables_1, d.before a0 Z = true) (h0 : Heap) (P : Fr1) (a1 a2 a3 a4 a5 a6 a7 : Addr) (v91 v92 v93 v94 v95 : List Value) (q1 : Int64) (hq : v91[(0 : Int32).toNatClampNeg]? = some (.long q1)) (hs : v92[(0 : Int32).toNatClampNeg]? = some (.long (0 : Int64))) (hF : Fre P 0 q1) (hf : (4 : Int32).toNatClampNeg < v93.length) (hl : (4 : Int32).toNatClampNeg < v94.length) (hm : (4 : Int32).toNatClampNeg < v95.length) :
    Met Bchg4_0_0000 Z a0 h0 #[(.ref a1), (.int (0 : Int32))] (M7 a1 a2 a3 a4 a5 a6 a7 (4 : Int32) v91 v92 v93 v94 v95 [(.int (0 : Int32)), (.int (0 : Int32)), (.int (0 : Int32)), (.int (0 : Int32))]) (fun v ds => ∃ z1 z2 z3 : Int32, Sm P 0 64 z1.toInt z2.toInt z3.toInt ∧ Ret none (M7 a1 a2 a3 a4 a5 a6 a7 (4 : Int32) v91 v92 (v93.set (4 : Int32).toNatClampNeg (.int z1)) (v94.set (4 : Int32).toNatClampNeg (.int z2)) (v95.set (4 : Int32).toNatClampNeg (.int z3)) [(.int (0 : Int32)), (.int (1 : Int32)), (.int (1 : Int32)), (.int (0 : Int32))]) v ds) := by
  refine Met.of pn13 (ls := #[.val (.ref a1), .val (.int (0 : Int32)), .unset]) (fun m => by first | (simp [entryFrame, mkF, argsToLocals, Value.category, Bchg4_0_0000]; done) | rfl) ?_
  refine go_aloadN 1 rfl d13_0 rfl rfl ?_
  refine go_iloadN 2 rfl d13_1 rfl ?_
  refine go_callP (host := "") 5 rfl d13_2 (Or.inl (wd hw 45 rfl)) (wd hw 46 rfl) (wd hw 47 rfl) (wd hw 9 rfl) (wd hw 10 rfl) (wd hw 48 rfl) (by decide) (Mo.exa (i := 0) rfl) (m_sum Z a0 hw h0 P a1 a2 a3 a4 a5 a6 a7 v91 v92 v93 v94 v95 [(.int (0 : Int32)), (.int (0 : Int32)), (.int (0 : Int32)), (.int (0 : Int32))] (0 : Int32) (4 : Int32) (4 : Int32) q1 0 0 64 hq hs (by decide) hF rfl (by decide) (by decide) (by decide) (by decide) hf hl hm) (argsL := [(.int (0 : Int32))]) (rest := []) rfl (ps := [.int]) (by decide +kernel) rfl rfl 0 rfl (by decide) (by decide) (by decide) (by decide) ?_
  rintro _ _ ⟨z661, z662, z663, hS, rfl, rfl⟩
  show Go Bchg4_0_0000 Z a0 h0 _ 0 0 (M7 a1 a2 a3 a4 a5 a6 a7 (4 : Int32) v91 v92 (v93.set (4 : Int32).toNatClampNeg (.int z661)) (v94.set (4 : Int32).toNatClampNeg (.int z662)) (v95.set (4 : Int32).toNatClampNeg (.int z663)) [(.int (0 : Int32)), (.int (0 : Int32)), (.int (0 : Int32)), (.int (0 : Int32))]) 5 #[.val (.ref a1), .val (.int (0 : Int32)), .unset] []
  refine go_aloadN 6 rfl d13_5 rfl rfl ?_
  refine go_get 0 0 9 rfl d13_6 rfl rfl rfl (wd hw 27 rfl) ?_
  refine go_iloadN 10 rfl d13_9 rfl ?_
  refine go_iadd 11 rfl d13_10 rfl ?_
  refine go_iconst (2 : Int32) 12 rfl d13_11 rfl ?_
  refine go_idiv 13 rfl d13_12 rfl (by decide) ?_
  refine go_istoreN #[.val (.ref a1), .val (.int (0 : Int32)), .val (.int (2 : Int32))] 14 rfl d13_13 rfl rfl ?_
  refine go_iloadN 15 rfl d13_14 rfl ?_
  refine go_if 41 18 rfl (by decide) rfl d13_15 rfl (fun (hc15 : (2 : Int) ≤ 0) => absurd hc15 (by decide)) (fun (hc15 : ¬ ((2 : Int) ≤ 0)) => ?_)
  refine go_aloadN 19 rfl d13_18 rfl rfl ?_
  refine go_get 0 6 22 rfl d13_19 rfl rfl rfl (wd hw 42 rfl) ?_
  refine go_iloadN 23 rfl d13_22 rfl ?_
  refine go_zaload 24 rfl d13_23 rfl (Mo.el (i := 6) rfl (by decide) rfl) ?_
  refine go_if 41 27 rfl (by decide) rfl d13_24 rfl (fun (hc24 : (0 : Int) ≠ 0) => absurd hc24 (by decide)) (fun (hc24 : ¬ ((0 : Int) ≠ 0)) => ?_)
  refine go_aloadN 28 rfl d13_27 rfl rfl ?_
  refine go_get 0 6 31 rfl d13_28 rfl rfl rfl (wd hw 42 rfl) ?_
  refine go_iloadN 32 rfl d13_31 rfl ?_
  refine go_iconst (1 : Int32) 33 rfl d13_32 rfl ?_
  refine go_zastore 6 34 rfl d13_33 rfl rfl (by decide) (lbe rfl) ?_
  refine go_iloadN 35 rfl d13_34 rfl ?_
  refine go_iconst (2 : Int32) 36 rfl d13_35 rfl ?_
  refine go_idiv 37 rfl d13_36 rfl (by decide) ?_
  refine go_istoreN #[.val (.ref a1), .val (.int (0 : Int32)), .val (.int (1 : Int32))] 38 rfl d13_37 rfl rfl ?_
  refine go_goto 14 (by decide) rfl d13_38 ?_
  refine go_iloadN 15 rfl d13_14 rfl ?_
  refine go_if 41 18 rfl (by decide) rfl d13_15 rfl (fun (hc15 : (1 : Int) ≤ 0) => absurd hc15 (by decide)) (fun (hc15 : ¬ ((1 : Int) ≤ 0)) => ?_)
  refine go_aloadN 19 rfl d13_18 rfl rfl ?_
  refine go_get 0 6 22 rfl d13_19 rfl rfl rfl (wd hw 42 rfl) ?_
  refine go_iloadN 23 rfl d13_22 rfl ?_
  refine go_zaload 24 rfl d13_23 rfl (Mo.el (i := 6) rfl (by decide) rfl) ?_
  refine go_if 41 27 rfl (by decide) rfl d13_24 rfl (fun (hc24 : (0 : Int) ≠ 0) => absurd hc24 (by decide)) (fun (hc24 : ¬ ((0 : Int) ≠ 0)) => ?_)
  refine go_aloadN 28 rfl d13_27 rfl rfl ?_
  refine go_get 0 6 31 rfl d13_28 rfl rfl rfl (wd hw 42 rfl) ?_
  refine go_iloadN 32 rfl d13_31 rfl ?_
  refine go_iconst (1 : Int32) 33 rfl d13_32 rfl ?_
  refine go_zastore 6 34 rfl d13_33 rfl rfl (by decide) (lbe rfl) ?_
  refine go_iloadN 35 rfl d13_34 rfl ?_
  refine go_iconst (2 : Int32) 36 rfl d13_35 rfl ?_
  refine go_idiv 37 rfl d13_36 rfl (by decide) ?_
  refine go_istoreN #[.val (.ref a1), .val (.int (0 : Int32)), .val (.int (0 : Int32))] 38 rfl d13_37 rfl rfl ?_
  refine go_goto 14 (by decide) rfl d13_38 ?_
  refine go_iloadN 15 rfl d13_14 rfl ?_
  refine go_if 41 18 rfl (by decide) rfl d13_15 rfl (fun (hc15 : (0 : Int) ≤ 0) => ?_) (fun (hc15 : ¬ ((0 : Int) ≤ 0)) => absurd hc15 (by decide))
  exact go_return d13_41 rfl rfl (by decide) (by decide) ⟨_, _, _, hS, rfl, rfl⟩
def Bchg4_1_0110 : Bdy := (⟨"com/example/clauseline/clauseline/service/TakenPieces", "changed", "(I)V"⟩, prog_101_method_5_code, 3, none, ({ frames := 4, cells := 0, slots := 0, locals := 67 } : Room))
theorem m_chg4_1_0110 (Z : State) (a0 : Array Value) (hw : ∀ d ∈ tables_1, d.before a0 Z = true) (h0 : Heap) (P : Fr1) (a1 a2 a3 a4 a5 a6 a7 : Addr) (v91 v92 v93 v94 v95 : List Value) (q1 : Int64) (hq : v91[(1 : Int32).toNatClampNeg]? = some (.long q1)) (hs : v92[(1 : Int32).toNatClampNeg]? = some (.long (0 : Int64))) (hF : Fre P 1 q1) (hf : (5 : Int32).toNatClampNeg < v93.length) (hl : (5 : Int32).toNatClampNeg < v94.length) (hm : (5 : Int32).toNatClampNeg < v95.length) :
    Met Bchg4_1_0110 Z a0 h0 #[(.ref a1), (.int (1 : Int32))] (M7 a1 a2 a3 a4 a5 a6 a7 (4 : Int32) v91 v92 v93 v94 v95 [(.int (0 : Int32)), (.int (1 : Int32)), (.int (1 : Int32)), (.int (0 : Int32))]) (fun v ds => ∃ z1 z2 z3 : Int32, Sm P 64 128 z1.toInt z2.toInt z3.toInt ∧ Ret none (M7 a1 a2 a3 a4 a5 a6 a7 (4 : Int32) v91 v92 (v93.set (5 : Int32).toNatClampNeg (.int z1)) (v94.set (5 : Int32).toNatClampNeg (.int z2)) (v95.set (5 : Int32).toNatClampNeg (.int z3)) [(.int (0 : Int32)), (.int (1 : Int32)), (.int (1 : Int32)), (.int (0 : Int32))]) v ds) := by
  refine Met.of pn13 (ls := #[.val (.ref a1), .val (.int (1 : Int32)), .unset]) (fun m => by first | (simp [entryFrame, mkF, argsToLocals, Value.category, Bchg4_1_0110]; done) | rfl) ?_
  refine go_aloadN 1 rfl d13_0 rfl rfl ?_
  refine go_iloadN 2 rfl d13_1 rfl ?_
  refine go_callP (host := "") 5 rfl d13_2 (Or.inl (wd hw 45 rfl)) (wd hw 46 rfl) (wd hw 47 rfl) (wd hw 9 rfl) (wd hw 10 rfl) (wd hw 48 rfl) (by decide) (Mo.exa (i := 0) rfl) (m_sum Z a0 hw h0 P a1 a2 a3 a4 a5 a6 a7 v91 v92 v93 v94 v95 [(.int (0 : Int32)), (.int (1 : Int32)), (.int (1 : Int32)), (.int (0 : Int32))] (1 : Int32) (4 : Int32) (5 : Int32) q1 1 64 128 hq hs (by decide) hF rfl (by decide) (by decide) (by decide) (by decide) hf hl hm) (argsL := [(.int (1 : Int32))]) (rest := []) rfl (ps := [.int]) (by decide +kernel) rfl rfl 0 rfl (by decide) (by decide) (by decide) (by decide) ?_
  rintro _ _ ⟨z661, z662, z663, hS, rfl, rfl⟩
  show Go Bchg4_1_0110 Z a0 h0 _ 0 0 (M7 a1 a2 a3 a4 a5 a6 a7 (4 : Int32) v91 v92 (v93.set (5 : Int32).toNatClampNeg (.int z661)) (v94.set (5 : Int32).toNatClampNeg (.int z662)) (v95.set (5 : Int32).toNatClampNeg (.int z663)) [(.int (0 : Int32)), (.int (1 : Int32)), (.int (1 : Int32)), (.int (0 : Int32))]) 5 #[.val (.ref a1), .val (.int (1 : Int32)), .unset] []
  refine go_aloadN 6 rfl d13_5 rfl rfl ?_
  refine go_get 0 0 9 rfl d13_6 rfl rfl rfl (wd hw 27 rfl) ?_
  refine go_iloadN 10 rfl d13_9 rfl ?_
  refine go_iadd 11 rfl d13_10 rfl ?_
  refine go_iconst (2 : Int32) 12 rfl d13_11 rfl ?_
  refine go_idiv 13 rfl d13_12 rfl (by decide) ?_
  refine go_istoreN #[.val (.ref a1), .val (.int (1 : Int32)), .val (.int (2 : Int32))] 14 rfl d13_13 rfl rfl ?_
  refine go_iloadN 15 rfl d13_14 rfl ?_
  refine go_if 41 18 rfl (by decide) rfl d13_15 rfl (fun (hc15 : (2 : Int) ≤ 0) => absurd hc15 (by decide)) (fun (hc15 : ¬ ((2 : Int) ≤ 0)) => ?_)
  refine go_aloadN 19 rfl d13_18 rfl rfl ?_
  refine go_get 0 6 22 rfl d13_19 rfl rfl rfl (wd hw 42 rfl) ?_
  refine go_iloadN 23 rfl d13_22 rfl ?_
  refine go_zaload 24 rfl d13_23 rfl (Mo.el (i := 6) rfl (by decide) rfl) ?_
  refine go_if 41 27 rfl (by decide) rfl d13_24 rfl (fun (hc24 : (1 : Int) ≠ 0) => ?_) (fun (hc24 : ¬ ((1 : Int) ≠ 0)) => absurd hc24 (by decide))
  exact go_return d13_41 rfl rfl (by decide) (by decide) ⟨_, _, _, hS, rfl, rfl⟩
def Bchg4_2_0110 : Bdy := (⟨"com/example/clauseline/clauseline/service/TakenPieces", "changed", "(I)V"⟩, prog_101_method_5_code, 3, none, ({ frames := 4, cells := 0, slots := 0, locals := 67 } : Room))
theorem m_chg4_2_0110 (Z : State) (a0 : Array Value) (hw : ∀ d ∈ tables_1, d.before a0 Z = true) (h0 : Heap) (P : Fr1) (a1 a2 a3 a4 a5 a6 a7 : Addr) (v91 v92 v93 v94 v95 : List Value) (q1 : Int64) (hq : v91[(2 : Int32).toNatClampNeg]? = some (.long q1)) (hs : v92[(2 : Int32).toNatClampNeg]? = some (.long (0 : Int64))) (hF : Fre P 2 q1) (hf : (6 : Int32).toNatClampNeg < v93.length) (hl : (6 : Int32).toNatClampNeg < v94.length) (hm : (6 : Int32).toNatClampNeg < v95.length) :
    Met Bchg4_2_0110 Z a0 h0 #[(.ref a1), (.int (2 : Int32))] (M7 a1 a2 a3 a4 a5 a6 a7 (4 : Int32) v91 v92 v93 v94 v95 [(.int (0 : Int32)), (.int (1 : Int32)), (.int (1 : Int32)), (.int (0 : Int32))]) (fun v ds => ∃ z1 z2 z3 : Int32, Sm P 128 192 z1.toInt z2.toInt z3.toInt ∧ Ret none (M7 a1 a2 a3 a4 a5 a6 a7 (4 : Int32) v91 v92 (v93.set (6 : Int32).toNatClampNeg (.int z1)) (v94.set (6 : Int32).toNatClampNeg (.int z2)) (v95.set (6 : Int32).toNatClampNeg (.int z3)) [(.int (0 : Int32)), (.int (1 : Int32)), (.int (1 : Int32)), (.int (1 : Int32))]) v ds) := by
  refine Met.of pn13 (ls := #[.val (.ref a1), .val (.int (2 : Int32)), .unset]) (fun m => by first | (simp [entryFrame, mkF, argsToLocals, Value.category, Bchg4_2_0110]; done) | rfl) ?_
  refine go_aloadN 1 rfl d13_0 rfl rfl ?_
  refine go_iloadN 2 rfl d13_1 rfl ?_
  refine go_callP (host := "") 5 rfl d13_2 (Or.inl (wd hw 45 rfl)) (wd hw 46 rfl) (wd hw 47 rfl) (wd hw 9 rfl) (wd hw 10 rfl) (wd hw 48 rfl) (by decide) (Mo.exa (i := 0) rfl) (m_sum Z a0 hw h0 P a1 a2 a3 a4 a5 a6 a7 v91 v92 v93 v94 v95 [(.int (0 : Int32)), (.int (1 : Int32)), (.int (1 : Int32)), (.int (0 : Int32))] (2 : Int32) (4 : Int32) (6 : Int32) q1 2 128 192 hq hs (by decide) hF rfl (by decide) (by decide) (by decide) (by decide) hf hl hm) (argsL := [(.int (2 : Int32))]) (rest := []) rfl (ps := [.int]) (by decide +kernel) rfl rfl 0 rfl (by decide) (by decide) (by decide) (by decide) ?_
  rintro _ _ ⟨z661, z662, z663, hS, rfl, rfl⟩
  show Go Bchg4_2_0110 Z a0 h0 _ 0 0 (M7 a1 a2 a3 a4 a5 a6 a7 (4 : Int32) v91 v92 (v93.set (6 : Int32).toNatClampNeg (.int z661)) (v94.set (6 : Int32).toNatClampNeg (.int z662)) (v95.set (6 : Int32).toNatClampNeg (.int z663)) [(.int (0 : Int32)), (.int (1 : Int32)), (.int (1 : Int32)), (.int (0 : Int32))]) 5 #[.val (.ref a1), .val (.int (2 : Int32)), .unset] []
  refine go_aloadN 6 rfl d13_5 rfl rfl ?_
  refine go_get 0 0 9 rfl d13_6 rfl rfl rfl (wd hw 27 rfl) ?_
  refine go_iloadN 10 rfl d13_9 rfl ?_
  refine go_iadd 11 rfl d13_10 rfl ?_
  refine go_iconst (2 : Int32) 12 rfl d13_11 rfl ?_
  refine go_idiv 13 rfl d13_12 rfl (by decide) ?_
  refine go_istoreN #[.val (.ref a1), .val (.int (2 : Int32)), .val (.int (3 : Int32))] 14 rfl d13_13 rfl rfl ?_
  refine go_iloadN 15 rfl d13_14 rfl ?_
  refine go_if 41 18 rfl (by decide) rfl d13_15 rfl (fun (hc15 : (3 : Int) ≤ 0) => absurd hc15 (by decide)) (fun (hc15 : ¬ ((3 : Int) ≤ 0)) => ?_)
  refine go_aloadN 19 rfl d13_18 rfl rfl ?_
  refine go_get 0 6 22 rfl d13_19 rfl rfl rfl (wd hw 42 rfl) ?_
  refine go_iloadN 23 rfl d13_22 rfl ?_
  refine go_zaload 24 rfl d13_23 rfl (Mo.el (i := 6) rfl (by decide) rfl) ?_
  refine go_if 41 27 rfl (by decide) rfl d13_24 rfl (fun (hc24 : (0 : Int) ≠ 0) => absurd hc24 (by decide)) (fun (hc24 : ¬ ((0 : Int) ≠ 0)) => ?_)
  refine go_aloadN 28 rfl d13_27 rfl rfl ?_
  refine go_get 0 6 31 rfl d13_28 rfl rfl rfl (wd hw 42 rfl) ?_
  refine go_iloadN 32 rfl d13_31 rfl ?_
  refine go_iconst (1 : Int32) 33 rfl d13_32 rfl ?_
  refine go_zastore 6 34 rfl d13_33 rfl rfl (by decide) (lbe rfl) ?_
  refine go_iloadN 35 rfl d13_34 rfl ?_
  refine go_iconst (2 : Int32) 36 rfl d13_35 rfl ?_
  refine go_idiv 37 rfl d13_36 rfl (by decide) ?_
  refine go_istoreN #[.val (.ref a1), .val (.int (2 : Int32)), .val (.int (1 : Int32))] 38 rfl d13_37 rfl rfl ?_
  refine go_goto 14 (by decide) rfl d13_38 ?_
  refine go_iloadN 15 rfl d13_14 rfl ?_
  refine go_if 41 18 rfl (by decide) rfl d13_15 rfl (fun (hc15 : (1 : Int) ≤ 0) => absurd hc15 (by decide)) (fun (hc15 : ¬ ((1 : Int) ≤ 0)) => ?_)
  refine go_aloadN 19 rfl d13_18 rfl rfl ?_
  refine go_get 0 6 22 rfl d13_19 rfl rfl rfl (wd hw 42 rfl) ?_
  refine go_iloadN 23 rfl d13_22 rfl ?_
  refine go_zaload 24 rfl d13_23 rfl (Mo.el (i := 6) rfl (by decide) rfl) ?_
  refine go_if 41 27 rfl (by decide) rfl d13_24 rfl (fun (hc24 : (1 : Int) ≠ 0) => ?_) (fun (hc24 : ¬ ((1 : Int) ≠ 0)) => absurd hc24 (by decide))
  exact go_return d13_41 rfl rfl (by decide) (by decide) ⟨_, _, _, hS, rfl, rfl⟩
def Bchg4_3_0111 : Bdy := (⟨"com/example/clauseline/clauseline/service/TakenPieces", "changed", "(I)V"⟩, prog_101_method_5_code, 3, none, ({ frames := 4, cells := 0, slots := 0, locals := 67 } : Room))
theorem m_chg4_3_0111 (Z : State) (a0 : Array Value) (hw : ∀ d ∈ tables_1, d.before a0 Z = true) (h0 : Heap) (P : Fr1) (a1 a2 a3 a4 a5 a6 a7 : Addr) (v91 v92 v93 v94 v95 : List Value) (q1 : Int64) (hq : v91[(3 : Int32).toNatClampNeg]? = some (.long q1)) (hs : v92[(3 : Int32).toNatClampNeg]? = some (.long (0 : Int64))) (hF : Fre P 3 q1) (hf : (7 : Int32).toNatClampNeg < v93.length) (hl : (7 : Int32).toNatClampNeg < v94.length) (hm : (7 : Int32).toNatClampNeg < v95.length) :
    Met Bchg4_3_0111 Z a0 h0 #[(.ref a1), (.int (3 : Int32))] (M7 a1 a2 a3 a4 a5 a6 a7 (4 : Int32) v91 v92 v93 v94 v95 [(.int (0 : Int32)), (.int (1 : Int32)), (.int (1 : Int32)), (.int (1 : Int32))]) (fun v ds => ∃ z1 z2 z3 : Int32, Sm P 192 256 z1.toInt z2.toInt z3.toInt ∧ Ret none (M7 a1 a2 a3 a4 a5 a6 a7 (4 : Int32) v91 v92 (v93.set (7 : Int32).toNatClampNeg (.int z1)) (v94.set (7 : Int32).toNatClampNeg (.int z2)) (v95.set (7 : Int32).toNatClampNeg (.int z3)) [(.int (0 : Int32)), (.int (1 : Int32)), (.int (1 : Int32)), (.int (1 : Int32))]) v ds) := by
  refine Met.of pn13 (ls := #[.val (.ref a1), .val (.int (3 : Int32)), .unset]) (fun m => by first | (simp [entryFrame, mkF, argsToLocals, Value.category, Bchg4_3_0111]; done) | rfl) ?_
  refine go_aloadN 1 rfl d13_0 rfl rfl ?_
  refine go_iloadN 2 rfl d13_1 rfl ?_
  refine go_callP (host := "") 5 rfl d13_2 (Or.inl (wd hw 45 rfl)) (wd hw 46 rfl) (wd hw 47 rfl) (wd hw 9 rfl) (wd hw 10 rfl) (wd hw 48 rfl) (by decide) (Mo.exa (i := 0) rfl) (m_sum Z a0 hw h0 P a1 a2 a3 a4 a5 a6 a7 v91 v92 v93 v94 v95 [(.int (0 : Int32)), (.int (1 : Int32)), (.int (1 : Int32)), (.int (1 : Int32))] (3 : Int32) (4 : Int32) (7 : Int32) q1 3 192 256 hq hs (by decide) hF rfl (by decide) (by decide) (by decide) (by decide) hf hl hm) (argsL := [(.int (3 : Int32))]) (rest := []) rfl (ps := [.int]) (by decide +kernel) rfl rfl 0 rfl (by decide) (by decide) (by decide) (by decide) ?_
  rintro _ _ ⟨z661, z662, z663, hS, rfl, rfl⟩
  show Go Bchg4_3_0111 Z a0 h0 _ 0 0 (M7 a1 a2 a3 a4 a5 a6 a7 (4 : Int32) v91 v92 (v93.set (7 : Int32).toNatClampNeg (.int z661)) (v94.set (7 : Int32).toNatClampNeg (.int z662)) (v95.set (7 : Int32).toNatClampNeg (.int z663)) [(.int (0 : Int32)), (.int (1 : Int32)), (.int (1 : Int32)), (.int (1 : Int32))]) 5 #[.val (.ref a1), .val (.int (3 : Int32)), .unset] []
  refine go_aloadN 6 rfl d13_5 rfl rfl ?_
  refine go_get 0 0 9 rfl d13_6 rfl rfl rfl (wd hw 27 rfl) ?_
  refine go_iloadN 10 rfl d13_9 rfl ?_
  refine go_iadd 11 rfl d13_10 rfl ?_
  refine go_iconst (2 : Int32) 12 rfl d13_11 rfl ?_
  refine go_idiv 13 rfl d13_12 rfl (by decide) ?_
  refine go_istoreN #[.val (.ref a1), .val (.int (3 : Int32)), .val (.int (3 : Int32))] 14 rfl d13_13 rfl rfl ?_
  refine go_iloadN 15 rfl d13_14 rfl ?_
  refine go_if 41 18 rfl (by decide) rfl d13_15 rfl (fun (hc15 : (3 : Int) ≤ 0) => absurd hc15 (by decide)) (fun (hc15 : ¬ ((3 : Int) ≤ 0)) => ?_)
  refine go_aloadN 19 rfl d13_18 rfl rfl ?_
  refine go_get 0 6 22 rfl d13_19 rfl rfl rfl (wd hw 42 rfl) ?_
  refine go_iloadN 23 rfl d13_22 rfl ?_
  refine go_zaload 24 rfl d13_23 rfl (Mo.el (i := 6) rfl (by decide) rfl) ?_
  refine go_if 41 27 rfl (by decide) rfl d13_24 rfl (fun (hc24 : (1 : Int) ≠ 0) => ?_) (fun (hc24 : ¬ ((1 : Int) ≠ 0)) => absurd hc24 (by decide))
  exact go_return d13_41 rfl rfl (by decide) (by decide) ⟨_, _, _, hS, rfl, rfl⟩
def Bchg4_1_0000 : Bdy := (⟨"com/example/clauseline/clauseline/service/TakenPieces", "changed", "(I)V"⟩, prog_101_method_5_code, 3, none, ({ frames := 4, cells := 0, slots := 0, locals := 67 } : Room))
theorem m_chg4_1_0000 (Z : State) (a0 : Array Value) (hw : ∀ d ∈ tables_1, d.before a0 Z = true) (h0 : Heap) (P : Fr1) (a1 a2 a3 a4 a5 a6 a7 : Addr) (v91 v92 v93 v94 v95 : List Value) (q1 : Int64) (hq : v91[(1 : Int32).toNatClampNeg]? = some (.long q1)) (hs : v92[(1 : Int32).toNatClampNeg]? = some (.long (0 : Int64))) (hF : Fre P 1 q1) (hf : (5 : Int32).toNatClampNeg < v93.length) (hl : (5 : Int32).toNatClampNeg < v94.length) (hm : (5 : Int32).toNatClampNeg < v95.length) :
    Met Bchg4_1_0000 Z a0 h0 #[(.ref a1), (.int (1 : Int32))] (M7 a1 a2 a3 a4 a5 a6 a7 (4 : Int32) v91 v92 v93 v94 v95 [(.int (0 : Int32)), (.int (0 : Int32)), (.int (0 : Int32)), (.int (0 : Int32))]) (fun v ds => ∃ z1 z2 z3 : Int32, Sm P 64 128 z1.toInt z2.toInt z3.toInt ∧ Ret none (M7 a1 a2 a3 a4 a5 a6 a7 (4 : Int32) v91 v92 (v93.set (5 : Int32).toNatClampNeg (.int z1)) (v94.set (5 : Int32).toNatClampNeg (.int z2)) (v95.set (5 : Int32).toNatClampNeg (.int z3)) [(.int (0 : Int32)), (.int (1 : Int32)), (.int (1 : Int32)), (.int (0 : Int32))]) v ds) := by
  refine Met.of pn13 (ls := #[.val (.ref a1), .val (.int (1 : Int32)), .unset]) (fun m => by first | (simp [entryFrame, mkF, argsToLocals, Value.category, Bchg4_1_0000]; done) | rfl) ?_
  refine go_aloadN 1 rfl d13_0 rfl rfl ?_
  refine go_iloadN 2 rfl d13_1 rfl ?_
  refine go_callP (host := "") 5 rfl d13_2 (Or.inl (wd hw 45 rfl)) (wd hw 46 rfl) (wd hw 47 rfl) (wd hw 9 rfl) (wd hw 10 rfl) (wd hw 48 rfl) (by decide) (Mo.exa (i := 0) rfl) (m_sum Z a0 hw h0 P a1 a2 a3 a4 a5 a6 a7 v91 v92 v93 v94 v95 [(.int (0 : Int32)), (.int (0 : Int32)), (.int (0 : Int32)), (.int (0 : Int32))] (1 : Int32) (4 : Int32) (5 : Int32) q1 1 64 128 hq hs (by decide) hF rfl (by decide) (by decide) (by decide) (by decide) hf hl hm) (argsL := [(.int (1 : Int32))]) (rest := []) rfl (ps := [.int]) (by decide +kernel) rfl rfl 0 rfl (by decide) (by decide) (by decide) (by decide) ?_
  rintro _ _ ⟨z661, z662, z663, hS, rfl, rfl⟩
  show Go Bchg4_1_0000 Z a0 h0 _ 0 0 (M7 a1 a2 a3 a4 a5 a6 a7 (4 : Int32) v91 v92 (v93.set (5 : Int32).toNatClampNeg (.int z661)) (v94.set (5 : Int32).toNatClampNeg (.int z662)) (v95.set (5 : Int32).toNatClampNeg (.int z663)) [(.int (0 : Int32)), (.int (0 : Int32)), (.int (0 : Int32)), (.int (0 : Int32))]) 5 #[.val (.ref a1), .val (.int (1 : Int32)), .unset] []
  refine go_aloadN 6 rfl d13_5 rfl rfl ?_
  refine go_get 0 0 9 rfl d13_6 rfl rfl rfl (wd hw 27 rfl) ?_
  refine go_iloadN 10 rfl d13_9 rfl ?_
  refine go_iadd 11 rfl d13_10 rfl ?_
  refine go_iconst (2 : Int32) 12 rfl d13_11 rfl ?_
  refine go_idiv 13 rfl d13_12 rfl (by decide) ?_
  refine go_istoreN #[.val (.ref a1), .val (.int (1 : Int32)), .val (.int (2 : Int32))] 14 rfl d13_13 rfl rfl ?_
  refine go_iloadN 15 rfl d13_14 rfl ?_
  refine go_if 41 18 rfl (by decide) rfl d13_15 rfl (fun (hc15 : (2 : Int) ≤ 0) => absurd hc15 (by decide)) (fun (hc15 : ¬ ((2 : Int) ≤ 0)) => ?_)
  refine go_aloadN 19 rfl d13_18 rfl rfl ?_
  refine go_get 0 6 22 rfl d13_19 rfl rfl rfl (wd hw 42 rfl) ?_
  refine go_iloadN 23 rfl d13_22 rfl ?_
  refine go_zaload 24 rfl d13_23 rfl (Mo.el (i := 6) rfl (by decide) rfl) ?_
  refine go_if 41 27 rfl (by decide) rfl d13_24 rfl (fun (hc24 : (0 : Int) ≠ 0) => absurd hc24 (by decide)) (fun (hc24 : ¬ ((0 : Int) ≠ 0)) => ?_)
  refine go_aloadN 28 rfl d13_27 rfl rfl ?_
  refine go_get 0 6 31 rfl d13_28 rfl rfl rfl (wd hw 42 rfl) ?_
  refine go_iloadN 32 rfl d13_31 rfl ?_
  refine go_iconst (1 : Int32) 33 rfl d13_32 rfl ?_
  refine go_zastore 6 34 rfl d13_33 rfl rfl (by decide) (lbe rfl) ?_
  refine go_iloadN 35 rfl d13_34 rfl ?_
  refine go_iconst (2 : Int32) 36 rfl d13_35 rfl ?_
  refine go_idiv 37 rfl d13_36 rfl (by decide) ?_
  refine go_istoreN #[.val (.ref a1), .val (.int (1 : Int32)), .val (.int (1 : Int32))] 38 rfl d13_37 rfl rfl ?_
  refine go_goto 14 (by decide) rfl d13_38 ?_
  refine go_iloadN 15 rfl d13_14 rfl ?_
  refine go_if 41 18 rfl (by decide) rfl d13_15 rfl (fun (hc15 : (1 : Int) ≤ 0) => absurd hc15 (by decide)) (fun (hc15 : ¬ ((1 : Int) ≤ 0)) => ?_)
  refine go_aloadN 19 rfl d13_18 rfl rfl ?_
  refine go_get 0 6 22 rfl d13_19 rfl rfl rfl (wd hw 42 rfl) ?_
  refine go_iloadN 23 rfl d13_22 rfl ?_
  refine go_zaload 24 rfl d13_23 rfl (Mo.el (i := 6) rfl (by decide) rfl) ?_
  refine go_if 41 27 rfl (by decide) rfl d13_24 rfl (fun (hc24 : (0 : Int) ≠ 0) => absurd hc24 (by decide)) (fun (hc24 : ¬ ((0 : Int) ≠ 0)) => ?_)
  refine go_aloadN 28 rfl d13_27 rfl rfl ?_
  refine go_get 0 6 31 rfl d13_28 rfl rfl rfl (wd hw 42 rfl) ?_
  refine go_iloadN 32 rfl d13_31 rfl ?_
  refine go_iconst (1 : Int32) 33 rfl d13_32 rfl ?_
  refine go_zastore 6 34 rfl d13_33 rfl rfl (by decide) (lbe rfl) ?_
  refine go_iloadN 35 rfl d13_34 rfl ?_
  refine go_iconst (2 : Int32) 36 rfl d13_35 rfl ?_
  refine go_idiv 37 rfl d13_36 rfl (by decide) ?_
  refine go_istoreN #[.val (.ref a1), .val (.int (1 : Int32)), .val (.int (0 : Int32))] 38 rfl d13_37 rfl rfl ?_
  refine go_goto 14 (by decide) rfl d13_38 ?_
  refine go_iloadN 15 rfl d13_14 rfl ?_
  refine go_if 41 18 rfl (by decide) rfl d13_15 rfl (fun (hc15 : (0 : Int) ≤ 0) => ?_) (fun (hc15 : ¬ ((0 : Int) ≤ 0)) => absurd hc15 (by decide))
  exact go_return d13_41 rfl rfl (by decide) (by decide) ⟨_, _, _, hS, rfl, rfl⟩
def Bchg4_2_0000 : Bdy := (⟨"com/example/clauseline/clauseline/service/TakenPieces", "changed", "(I)V"⟩, prog_101_method_5_code, 3, none, ({ frames := 4, cells := 0, slots := 0, locals := 67 } : Room))
theorem m_chg4_2_0000 (Z : State) (a0 : Array Value) (hw : ∀ d ∈ tables_1, d.before a0 Z = true) (h0 : Heap) (P : Fr1) (a1 a2 a3 a4 a5 a6 a7 : Addr) (v91 v92 v93 v94 v95 : List Value) (q1 : Int64) (hq : v91[(2 : Int32).toNatClampNeg]? = some (.long q1)) (hs : v92[(2 : Int32).toNatClampNeg]? = some (.long (0 : Int64))) (hF : Fre P 2 q1) (hf : (6 : Int32).toNatClampNeg < v93.length) (hl : (6 : Int32).toNatClampNeg < v94.length) (hm : (6 : Int32).toNatClampNeg < v95.length) :
    Met Bchg4_2_0000 Z a0 h0 #[(.ref a1), (.int (2 : Int32))] (M7 a1 a2 a3 a4 a5 a6 a7 (4 : Int32) v91 v92 v93 v94 v95 [(.int (0 : Int32)), (.int (0 : Int32)), (.int (0 : Int32)), (.int (0 : Int32))]) (fun v ds => ∃ z1 z2 z3 : Int32, Sm P 128 192 z1.toInt z2.toInt z3.toInt ∧ Ret none (M7 a1 a2 a3 a4 a5 a6 a7 (4 : Int32) v91 v92 (v93.set (6 : Int32).toNatClampNeg (.int z1)) (v94.set (6 : Int32).toNatClampNeg (.int z2)) (v95.set (6 : Int32).toNatClampNeg (.int z3)) [(.int (0 : Int32)), (.int (1 : Int32)), (.int (0 : Int32)), (.int (1 : Int32))]) v ds) := by
  refine Met.of pn13 (ls := #[.val (.ref a1), .val (.int (2 : Int32)), .unset]) (fun m => by first | (simp [entryFrame, mkF, argsToLocals, Value.category, Bchg4_2_0000]; done) | rfl) ?_
  refine go_aloadN 1 rfl d13_0 rfl rfl ?_
  refine go_iloadN 2 rfl d13_1 rfl ?_
  refine go_callP (host := "") 5 rfl d13_2 (Or.inl (wd hw 45 rfl)) (wd hw 46 rfl) (wd hw 47 rfl) (wd hw 9 rfl) (wd hw 10 rfl) (wd hw 48 rfl) (by decide) (Mo.exa (i := 0) rfl) (m_sum Z a0 hw h0 P a1 a2 a3 a4 a5 a6 a7 v91 v92 v93 v94 v95 [(.int (0 : Int32)), (.int (0 : Int32)), (.int (0 : Int32)), (.int (0 : Int32))] (2 : Int32) (4 : Int32) (6 : Int32) q1 2 128 192 hq hs (by decide) hF rfl (by decide) (by decide) (by decide) (by decide) hf hl hm) (argsL := [(.int (2 : Int32))]) (rest := []) rfl (ps := [.int]) (by decide +kernel) rfl rfl 0 rfl (by decide) (by decide) (by decide) (by decide) ?_
  rintro _ _ ⟨z661, z662, z663, hS, rfl, rfl⟩
  show Go Bchg4_2_0000 Z a0 h0 _ 0 0 (M7 a1 a2 a3 a4 a5 a6 a7 (4 : Int32) v91 v92 (v93.set (6 : Int32).toNatClampNeg (.int z661)) (v94.set (6 : Int32).toNatClampNeg (.int z662)) (v95.set (6 : Int32).toNatClampNeg (.int z663)) [(.int (0 : Int32)), (.int (0 : Int32)), (.int (0 : Int32)), (.int (0 : Int32))]) 5 #[.val (.ref a1), .val (.int (2 : Int32)), .unset] []
  refine go_aloadN 6 rfl d13_5 rfl rfl ?_
  refine go_get 0 0 9 rfl d13_6 rfl rfl rfl (wd hw 27 rfl) ?_
  refine go_iloadN 10 rfl d13_9 rfl ?_
  refine go_iadd 11 rfl d13_10 rfl ?_
  refine go_iconst (2 : Int32) 12 rfl d13_11 rfl ?_
  refine go_idiv 13 rfl d13_12 rfl (by decide) ?_
  refine go_istoreN #[.val (.ref a1), .val (.int (2 : Int32)), .val (.int (3 : Int32))] 14 rfl d13_13 rfl rfl ?_
  refine go_iloadN 15 rfl d13_14 rfl ?_
  refine go_if 41 18 rfl (by decide) rfl d13_15 rfl (fun (hc15 : (3 : Int) ≤ 0) => absurd hc15 (by decide)) (fun (hc15 : ¬ ((3 : Int) ≤ 0)) => ?_)
  refine go_aloadN 19 rfl d13_18 rfl rfl ?_
  refine go_get 0 6 22 rfl d13_19 rfl rfl rfl (wd hw 42 rfl) ?_
  refine go_iloadN 23 rfl d13_22 rfl ?_
  refine go_zaload 24 rfl d13_23 rfl (Mo.el (i := 6) rfl (by decide) rfl) ?_
  refine go_if 41 27 rfl (by decide) rfl d13_24 rfl (fun (hc24 : (0 : Int) ≠ 0) => absurd hc24 (by decide)) (fun (hc24 : ¬ ((0 : Int) ≠ 0)) => ?_)
  refine go_aloadN 28 rfl d13_27 rfl rfl ?_
  refine go_get 0 6 31 rfl d13_28 rfl rfl rfl (wd hw 42 rfl) ?_
  refine go_iloadN 32 rfl d13_31 rfl ?_
  refine go_iconst (1 : Int32) 33 rfl d13_32 rfl ?_
  refine go_zastore 6 34 rfl d13_33 rfl rfl (by decide) (lbe rfl) ?_
  refine go_iloadN 35 rfl d13_34 rfl ?_
  refine go_iconst (2 : Int32) 36 rfl d13_35 rfl ?_
  refine go_idiv 37 rfl d13_36 rfl (by decide) ?_
  refine go_istoreN #[.val (.ref a1), .val (.int (2 : Int32)), .val (.int (1 : Int32))] 38 rfl d13_37 rfl rfl ?_
  refine go_goto 14 (by decide) rfl d13_38 ?_
  refine go_iloadN 15 rfl d13_14 rfl ?_
  refine go_if 41 18 rfl (by decide) rfl d13_15 rfl (fun (hc15 : (1 : Int) ≤ 0) => absurd hc15 (by decide)) (fun (hc15 : ¬ ((1 : Int) ≤ 0)) => ?_)
  refine go_aloadN 19 rfl d13_18 rfl rfl ?_
  refine go_get 0 6 22 rfl d13_19 rfl rfl rfl (wd hw 42 rfl) ?_
  refine go_iloadN 23 rfl d13_22 rfl ?_
  refine go_zaload 24 rfl d13_23 rfl (Mo.el (i := 6) rfl (by decide) rfl) ?_
  refine go_if 41 27 rfl (by decide) rfl d13_24 rfl (fun (hc24 : (0 : Int) ≠ 0) => absurd hc24 (by decide)) (fun (hc24 : ¬ ((0 : Int) ≠ 0)) => ?_)
  refine go_aloadN 28 rfl d13_27 rfl rfl ?_
  refine go_get 0 6 31 rfl d13_28 rfl rfl rfl (wd hw 42 rfl) ?_
  refine go_iloadN 32 rfl d13_31 rfl ?_
  refine go_iconst (1 : Int32) 33 rfl d13_32 rfl ?_
  refine go_zastore 6 34 rfl d13_33 rfl rfl (by decide) (lbe rfl) ?_
  refine go_iloadN 35 rfl d13_34 rfl ?_
  refine go_iconst (2 : Int32) 36 rfl d13_35 rfl ?_
  refine go_idiv 37 rfl d13_36 rfl (by decide) ?_
  refine go_istoreN #[.val (.ref a1), .val (.int (2 : Int32)), .val (.int (0 : Int32))] 38 rfl d13_37 rfl rfl ?_
  refine go_goto 14 (by decide) rfl d13_38 ?_
  refine go_iloadN 15 rfl d13_14 rfl ?_
  refine go_if 41 18 rfl (by decide) rfl d13_15 rfl (fun (hc15 : (0 : Int) ≤ 0) => ?_) (fun (hc15 : ¬ ((0 : Int) ≤ 0)) => absurd hc15 (by decide))
  exact go_return d13_41 rfl rfl (by decide) (by decide) ⟨_, _, _, hS, rfl, rfl⟩
def Bchg4_3_0101 : Bdy := (⟨"com/example/clauseline/clauseline/service/TakenPieces", "changed", "(I)V"⟩, prog_101_method_5_code, 3, none, ({ frames := 4, cells := 0, slots := 0, locals := 67 } : Room))
theorem m_chg4_3_0101 (Z : State) (a0 : Array Value) (hw : ∀ d ∈ tables_1, d.before a0 Z = true) (h0 : Heap) (P : Fr1) (a1 a2 a3 a4 a5 a6 a7 : Addr) (v91 v92 v93 v94 v95 : List Value) (q1 : Int64) (hq : v91[(3 : Int32).toNatClampNeg]? = some (.long q1)) (hs : v92[(3 : Int32).toNatClampNeg]? = some (.long (0 : Int64))) (hF : Fre P 3 q1) (hf : (7 : Int32).toNatClampNeg < v93.length) (hl : (7 : Int32).toNatClampNeg < v94.length) (hm : (7 : Int32).toNatClampNeg < v95.length) :
    Met Bchg4_3_0101 Z a0 h0 #[(.ref a1), (.int (3 : Int32))] (M7 a1 a2 a3 a4 a5 a6 a7 (4 : Int32) v91 v92 v93 v94 v95 [(.int (0 : Int32)), (.int (1 : Int32)), (.int (0 : Int32)), (.int (1 : Int32))]) (fun v ds => ∃ z1 z2 z3 : Int32, Sm P 192 256 z1.toInt z2.toInt z3.toInt ∧ Ret none (M7 a1 a2 a3 a4 a5 a6 a7 (4 : Int32) v91 v92 (v93.set (7 : Int32).toNatClampNeg (.int z1)) (v94.set (7 : Int32).toNatClampNeg (.int z2)) (v95.set (7 : Int32).toNatClampNeg (.int z3)) [(.int (0 : Int32)), (.int (1 : Int32)), (.int (0 : Int32)), (.int (1 : Int32))]) v ds) := by
  refine Met.of pn13 (ls := #[.val (.ref a1), .val (.int (3 : Int32)), .unset]) (fun m => by first | (simp [entryFrame, mkF, argsToLocals, Value.category, Bchg4_3_0101]; done) | rfl) ?_
  refine go_aloadN 1 rfl d13_0 rfl rfl ?_
  refine go_iloadN 2 rfl d13_1 rfl ?_
  refine go_callP (host := "") 5 rfl d13_2 (Or.inl (wd hw 45 rfl)) (wd hw 46 rfl) (wd hw 47 rfl) (wd hw 9 rfl) (wd hw 10 rfl) (wd hw 48 rfl) (by decide) (Mo.exa (i := 0) rfl) (m_sum Z a0 hw h0 P a1 a2 a3 a4 a5 a6 a7 v91 v92 v93 v94 v95 [(.int (0 : Int32)), (.int (1 : Int32)), (.int (0 : Int32)), (.int (1 : Int32))] (3 : Int32) (4 : Int32) (7 : Int32) q1 3 192 256 hq hs (by decide) hF rfl (by decide) (by decide) (by decide) (by decide) hf hl hm) (argsL := [(.int (3 : Int32))]) (rest := []) rfl (ps := [.int]) (by decide +kernel) rfl rfl 0 rfl (by decide) (by decide) (by decide) (by decide) ?_
  rintro _ _ ⟨z661, z662, z663, hS, rfl, rfl⟩
  show Go Bchg4_3_0101 Z a0 h0 _ 0 0 (M7 a1 a2 a3 a4 a5 a6 a7 (4 : Int32) v91 v92 (v93.set (7 : Int32).toNatClampNeg (.int z661)) (v94.set (7 : Int32).toNatClampNeg (.int z662)) (v95.set (7 : Int32).toNatClampNeg (.int z663)) [(.int (0 : Int32)), (.int (1 : Int32)), (.int (0 : Int32)), (.int (1 : Int32))]) 5 #[.val (.ref a1), .val (.int (3 : Int32)), .unset] []
  refine go_aloadN 6 rfl d13_5 rfl rfl ?_
  refine go_get 0 0 9 rfl d13_6 rfl rfl rfl (wd hw 27 rfl) ?_
  refine go_iloadN 10 rfl d13_9 rfl ?_
  refine go_iadd 11 rfl d13_10 rfl ?_
  refine go_iconst (2 : Int32) 12 rfl d13_11 rfl ?_
  refine go_idiv 13 rfl d13_12 rfl (by decide) ?_
  refine go_istoreN #[.val (.ref a1), .val (.int (3 : Int32)), .val (.int (3 : Int32))] 14 rfl d13_13 rfl rfl ?_
  refine go_iloadN 15 rfl d13_14 rfl ?_
  refine go_if 41 18 rfl (by decide) rfl d13_15 rfl (fun (hc15 : (3 : Int) ≤ 0) => absurd hc15 (by decide)) (fun (hc15 : ¬ ((3 : Int) ≤ 0)) => ?_)
  refine go_aloadN 19 rfl d13_18 rfl rfl ?_
  refine go_get 0 6 22 rfl d13_19 rfl rfl rfl (wd hw 42 rfl) ?_
  refine go_iloadN 23 rfl d13_22 rfl ?_
  refine go_zaload 24 rfl d13_23 rfl (Mo.el (i := 6) rfl (by decide) rfl) ?_
  refine go_if 41 27 rfl (by decide) rfl d13_24 rfl (fun (hc24 : (1 : Int) ≠ 0) => ?_) (fun (hc24 : ¬ ((1 : Int) ≠ 0)) => absurd hc24 (by decide))
  exact go_return d13_41 rfl rfl (by decide) (by decide) ⟨_, _, _, hS, rfl, rfl⟩
def Bchg4_3_0000 : Bdy := (⟨"com/example/clauseline/clauseline/service/TakenPieces", "changed", "(I)V"⟩, prog_101_method_5_code, 3, none, ({ frames := 4, cells := 0, slots := 0, locals := 67 } : Room))
theorem m_chg4_3_0000 (Z : State) (a0 : Array Value) (hw : ∀ d ∈ tables_1, d.before a0 Z = true) (h0 : Heap) (P : Fr1) (a1 a2 a3 a4 a5 a6 a7 : Addr) (v91 v92 v93 v94 v95 : List Value) (q1 : Int64) (hq : v91[(3 : Int32).toNatClampNeg]? = some (.long q1)) (hs : v92[(3 : Int32).toNatClampNeg]? = some (.long (0 : Int64))) (hF : Fre P 3 q1) (hf : (7 : Int32).toNatClampNeg < v93.length) (hl : (7 : Int32).toNatClampNeg < v94.length) (hm : (7 : Int32).toNatClampNeg < v95.length) :
    Met Bchg4_3_0000 Z a0 h0 #[(.ref a1), (.int (3 : Int32))] (M7 a1 a2 a3 a4 a5 a6 a7 (4 : Int32) v91 v92 v93 v94 v95 [(.int (0 : Int32)), (.int (0 : Int32)), (.int (0 : Int32)), (.int (0 : Int32))]) (fun v ds => ∃ z1 z2 z3 : Int32, Sm P 192 256 z1.toInt z2.toInt z3.toInt ∧ Ret none (M7 a1 a2 a3 a4 a5 a6 a7 (4 : Int32) v91 v92 (v93.set (7 : Int32).toNatClampNeg (.int z1)) (v94.set (7 : Int32).toNatClampNeg (.int z2)) (v95.set (7 : Int32).toNatClampNeg (.int z3)) [(.int (0 : Int32)), (.int (1 : Int32)), (.int (0 : Int32)), (.int (1 : Int32))]) v ds) := by
  refine Met.of pn13 (ls := #[.val (.ref a1), .val (.int (3 : Int32)), .unset]) (fun m => by first | (simp [entryFrame, mkF, argsToLocals, Value.category, Bchg4_3_0000]; done) | rfl) ?_
  refine go_aloadN 1 rfl d13_0 rfl rfl ?_
  refine go_iloadN 2 rfl d13_1 rfl ?_
  refine go_callP (host := "") 5 rfl d13_2 (Or.inl (wd hw 45 rfl)) (wd hw 46 rfl) (wd hw 47 rfl) (wd hw 9 rfl) (wd hw 10 rfl) (wd hw 48 rfl) (by decide) (Mo.exa (i := 0) rfl) (m_sum Z a0 hw h0 P a1 a2 a3 a4 a5 a6 a7 v91 v92 v93 v94 v95 [(.int (0 : Int32)), (.int (0 : Int32)), (.int (0 : Int32)), (.int (0 : Int32))] (3 : Int32) (4 : Int32) (7 : Int32) q1 3 192 256 hq hs (by decide) hF rfl (by decide) (by decide) (by decide) (by decide) hf hl hm) (argsL := [(.int (3 : Int32))]) (rest := []) rfl (ps := [.int]) (by decide +kernel) rfl rfl 0 rfl (by decide) (by decide) (by decide) (by decide) ?_
  rintro _ _ ⟨z661, z662, z663, hS, rfl, rfl⟩
  show Go Bchg4_3_0000 Z a0 h0 _ 0 0 (M7 a1 a2 a3 a4 a5 a6 a7 (4 : Int32) v91 v92 (v93.set (7 : Int32).toNatClampNeg (.int z661)) (v94.set (7 : Int32).toNatClampNeg (.int z662)) (v95.set (7 : Int32).toNatClampNeg (.int z663)) [(.int (0 : Int32)), (.int (0 : Int32)), (.int (0 : Int32)), (.int (0 : Int32))]) 5 #[.val (.ref a1), .val (.int (3 : Int32)), .unset] []
  refine go_aloadN 6 rfl d13_5 rfl rfl ?_
  refine go_get 0 0 9 rfl d13_6 rfl rfl rfl (wd hw 27 rfl) ?_
  refine go_iloadN 10 rfl d13_9 rfl ?_
  refine go_iadd 11 rfl d13_10 rfl ?_
  refine go_iconst (2 : Int32) 12 rfl d13_11 rfl ?_
  refine go_idiv 13 rfl d13_12 rfl (by decide) ?_
  refine go_istoreN #[.val (.ref a1), .val (.int (3 : Int32)), .val (.int (3 : Int32))] 14 rfl d13_13 rfl rfl ?_
  refine go_iloadN 15 rfl d13_14 rfl ?_
  refine go_if 41 18 rfl (by decide) rfl d13_15 rfl (fun (hc15 : (3 : Int) ≤ 0) => absurd hc15 (by decide)) (fun (hc15 : ¬ ((3 : Int) ≤ 0)) => ?_)
  refine go_aloadN 19 rfl d13_18 rfl rfl ?_
  refine go_get 0 6 22 rfl d13_19 rfl rfl rfl (wd hw 42 rfl) ?_
  refine go_iloadN 23 rfl d13_22 rfl ?_
  refine go_zaload 24 rfl d13_23 rfl (Mo.el (i := 6) rfl (by decide) rfl) ?_
  refine go_if 41 27 rfl (by decide) rfl d13_24 rfl (fun (hc24 : (0 : Int) ≠ 0) => absurd hc24 (by decide)) (fun (hc24 : ¬ ((0 : Int) ≠ 0)) => ?_)
  refine go_aloadN 28 rfl d13_27 rfl rfl ?_
  refine go_get 0 6 31 rfl d13_28 rfl rfl rfl (wd hw 42 rfl) ?_
  refine go_iloadN 32 rfl d13_31 rfl ?_
  refine go_iconst (1 : Int32) 33 rfl d13_32 rfl ?_
  refine go_zastore 6 34 rfl d13_33 rfl rfl (by decide) (lbe rfl) ?_
  refine go_iloadN 35 rfl d13_34 rfl ?_
  refine go_iconst (2 : Int32) 36 rfl d13_35 rfl ?_
  refine go_idiv 37 rfl d13_36 rfl (by decide) ?_
  refine go_istoreN #[.val (.ref a1), .val (.int (3 : Int32)), .val (.int (1 : Int32))] 38 rfl d13_37 rfl rfl ?_
  refine go_goto 14 (by decide) rfl d13_38 ?_
  refine go_iloadN 15 rfl d13_14 rfl ?_
  refine go_if 41 18 rfl (by decide) rfl d13_15 rfl (fun (hc15 : (1 : Int) ≤ 0) => absurd hc15 (by decide)) (fun (hc15 : ¬ ((1 : Int) ≤ 0)) => ?_)
  refine go_aloadN 19 rfl d13_18 rfl rfl ?_
  refine go_get 0 6 22 rfl d13_19 rfl rfl rfl (wd hw 42 rfl) ?_
  refine go_iloadN 23 rfl d13_22 rfl ?_
  refine go_zaload 24 rfl d13_23 rfl (Mo.el (i := 6) rfl (by decide) rfl) ?_
  refine go_if 41 27 rfl (by decide) rfl d13_24 rfl (fun (hc24 : (0 : Int) ≠ 0) => absurd hc24 (by decide)) (fun (hc24 : ¬ ((0 : Int) ≠ 0)) => ?_)
  refine go_aloadN 28 rfl d13_27 rfl rfl ?_
  refine go_get 0 6 31 rfl d13_28 rfl rfl rfl (wd hw 42 rfl) ?_
  refine go_iloadN 32 rfl d13_31 rfl ?_
  refine go_iconst (1 : Int32) 33 rfl d13_32 rfl ?_
  refine go_zastore 6 34 rfl d13_33 rfl rfl (by decide) (lbe rfl) ?_
  refine go_iloadN 35 rfl d13_34 rfl ?_
  refine go_iconst (2 : Int32) 36 rfl d13_35 rfl ?_
  refine go_idiv 37 rfl d13_36 rfl (by decide) ?_
  refine go_istoreN #[.val (.ref a1), .val (.int (3 : Int32)), .val (.int (0 : Int32))] 38 rfl d13_37 rfl rfl ?_
  refine go_goto 14 (by decide) rfl d13_38 ?_
  refine go_iloadN 15 rfl d13_14 rfl ?_
  refine go_if 41 18 rfl (by decide) rfl d13_15 rfl (fun (hc15 : (0 : Int) ≤ 0) => ?_) (fun (hc15 : ¬ ((0 : Int) ≤ 0)) => absurd hc15 (by decide))
  exact go_return d13_41 rfl rfl (by decide) (by decide) ⟨_, _, _, hS, rfl, rfl⟩
def Btk4 : Bdy := (⟨"com/example/clauseline/clauseline/service/TakenPieces", "take", "(II)V"⟩, prog_101_method_2_code, 8, none, ({ frames := 5, cells := 0, slots := 0, locals := 81 } : Room))
theorem m_tk4 (Z : State) (a0 : Array Value) (hw : ∀ d ∈ tables_1, d.before a0 Z = true) (h0 : Heap) (P : Fr1) (a1 a2 a3 a4 a5 a6 a7 : Addr) (q0 q1 q2 q3 : Int64) (z101 z201 z301 z102 z202 z302 z103 z203 z303 z104 z204 z304 z105 z205 z305 z106 z206 z306 z107 z207 z307 : Int32) (p4 p5 : Int32) (C : Int) (h4 : 0 ≤ p4.toInt ∧ p4.toInt ≤ p5.toInt ∧ p5.toInt < C) (hC : C ≤ 256) (e0 : Fre (P0 C) 0 q0) (e1 : Fre (P0 C) 1 q1) (e2 : Fre (P0 C) 2 q2) (e3 : Fre (P0 C) 3 q3) (s1 : Sm (P0 C) 0 256 z101.toInt z201.toInt z301.toInt) (s2 : Sm (P0 C) 0 128 z102.toInt z202.toInt z302.toInt) (s3 : Sm (P0 C) 128 256 z103.toInt z203.toInt z303.toInt) (s4 : Sm (P0 C) 0 64 z104.toInt z204.toInt z304.toInt) (s5 : Sm (P0 C) 64 128 z105.toInt z205.toInt z305.toInt) (s6 : Sm (P0 C) 128 192 z106.toInt z206.toInt z306.toInt) (s7 : Sm (P0 C) 192 256 z107.toInt z207.toInt z307.toInt) :
    Met Btk4 Z a0 h0 #[(.ref a1), (.int p4), (.int p5)] (M4 a1 a2 a3 a4 a5 a6 a7 q0 q1 q2 q3 z101 z201 z301 z102 z202 z302 z103 z203 z303 z104 z204 z304 z105 z205 z305 z106 z206 z306 z107 z207 z307 (0 : Int32) (0 : Int32) (0 : Int32)) (fun v ds => ∃ (x0 x1 x2 x3 : Int64) (y40 y41 y42 y50 y51 y52 y60 y61 y62 y70 y71 y72 y13 y23 y33 : Int32), Inv4 (P1 p4.toInt (p5.toInt + 1) C) x0 x1 x2 x3 z101 z201 z301 z102 z202 z302 z103 z203 z303 y40 y41 y42 y50 y51 y52 y60 y61 y62 y70 y71 y72 y13 y23 y33 ∧ Ret none (M4 a1 a2 a3 a4 a5 a6 a7 x0 x1 x2 x3 z101 z201 z301 z102 z202 z302 z103 z203 z303 y40 y41 y42 y50 y51 y52 y60 y61 y62 y70 y71 y72 y13 y23 y33) v ds) := by
  refine Met.of pn12 (ls := #[.val (.ref a1), .val (.int p4), .val (.int p5), .unset, .unset, .unset, .unset, .unset]) (fun m => by first | (simp [entryFrame, mkF, argsToLocals, Value.category, Btk4]; done) | rfl) ?_
  show Go Btk4 Z a0 h0 _ 0 0 (M4 a1 a2 a3 a4 a5 a6 a7 q0 q1 q2 q3 z101 z201 z301 z102 z202 z302 z103 z203 z303 z104 z204 z304 z105 z205 z305 z106 z206 z306 z107 z207 z307 (0 : Int32) (0 : Int32) (0 : Int32)) 0 #[.val (.ref a1), .val (.int p4), .val (.int p5), .unset, .unset, .unset, .unset, .unset] []
  have e0_ : (0 : Int32).toInt = 0 := rfl; have e63_ : (63 : Int32).toInt = 63 := rfl
  have ea := (c_idiv p4 (64 : Int32) 64 rfl (by decide)).1 (by omega); have eb := (c_idiv p5 (64 : Int32) 64 rfl (by decide)).1 (by omega)
  have ra := (c_irem p4 (64 : Int32) 64 rfl).1 (by omega); have rb := (c_irem p5 (64 : Int32) 64 rfl).1 (by omega)
  refine go_iloadN 1 rfl d12_0 rfl ?_
  refine go_bipush (64 : Int32) 3 rfl d12_1 rfl ?_
  refine go_idiv 4 rfl d12_3 rfl (by decide) ?_
  have ha : (p4 / (64 : Int32)) = (0 : Int32) ∨ (p4 / (64 : Int32)) = (1 : Int32) ∨ (p4 / (64 : Int32)) = (2 : Int32) ∨ (p4 / (64 : Int32)) = (3 : Int32) := by
    have : (p4 / (64 : Int32)).toInt = 0 ∨ (p4 / (64 : Int32)).toInt = 1 ∨ (p4 / (64 : Int32)).toInt = 2 ∨ (p4 / (64 : Int32)).toInt = 3 := by omega
    rcases this with q | q | q | q
    · exact Or.inl (i32_of q rfl)
    · exact Or.inr (Or.inl (i32_of q rfl))
    · exact Or.inr (Or.inr (Or.inl (i32_of q rfl)))
    · exact Or.inr (Or.inr (Or.inr (i32_of q rfl)))
  rcases ha with ha | ha | ha | ha
  · rw [ha]
    have gha := congrArg Int32.toInt ha; have lha : (0 : Int32).toInt = 0 := rfl
    refine go_istoreN #[.val (.ref a1), .val (.int p4), .val (.int p5), .val (.int (0 : Int32)), .unset, .unset, .unset, .unset] 5 rfl d12_4 rfl rfl ?_
    refine go_iloadN 6 rfl d12_5 rfl ?_
    refine go_bipush (64 : Int32) 8 rfl d12_6 rfl ?_
    refine go_idiv 9 rfl d12_8 rfl (by decide) ?_
    have hb : (p5 / (64 : Int32)) = (0 : Int32) ∨ (p5 / (64 : Int32)) = (1 : Int32) ∨ (p5 / (64 : Int32)) = (2 : Int32) ∨ (p5 / (64 : Int32)) = (3 : Int32) := by
      have : (p5 / (64 : Int32)).toInt = 0 ∨ (p5 / (64 : Int32)).toInt = 1 ∨ (p5 / (64 : Int32)).toInt = 2 ∨ (p5 / (64 : Int32)).toInt = 3 := by omega
      rcases this with q | q | q | q
      · exact Or.inl (i32_of q rfl)
      · exact Or.inr (Or.inl (i32_of q rfl))
      · exact Or.inr (Or.inr (Or.inl (i32_of q rfl)))
      · exact Or.inr (Or.inr (Or.inr (i32_of q rfl)))
    rcases hb with hb | hb | hb | hb
    · rw [hb]
      have ghb := congrArg Int32.toInt hb; have lhb : (0 : Int32).toInt = 0 := rfl
      refine go_istore #[.val (.ref a1), .val (.int p4), .val (.int p5), .val (.int (0 : Int32)), .val (.int (0 : Int32)), .unset, .unset, .unset] 11 rfl d12_9 rfl rfl ?_
      refine go_iloadN 12 rfl d12_11 rfl ?_
      refine go_istore #[.val (.ref a1), .val (.int p4), .val (.int p5), .val (.int (0 : Int32)), .val (.int (0 : Int32)), .val (.int (0 : Int32)), .unset, .unset] 14 rfl d12_12 rfl rfl ?_
      refine go_iload 16 rfl d12_14 rfl ?_
      refine go_iload 18 rfl d12_16 rfl ?_
      refine go_icmp 92 21 rfl (by decide) rfl d12_18 rfl (fun (hc18 : (0 : Int) < (0 : Int)) => absurd hc18 (by decide)) (fun (hc18 : ¬ ((0 : Int) < (0 : Int))) => ?_)
      refine go_iload 23 rfl d12_21 rfl ?_
      refine go_iloadN 24 rfl d12_23 rfl ?_
      refine go_icmp 34 27 rfl (by decide) rfl d12_24 rfl (fun (hc24 : (0 : Int) ≠ (0 : Int)) => absurd hc24 (by decide)) (fun (hc24 : ¬ ((0 : Int) ≠ (0 : Int))) => ?_)
      refine go_iloadN 28 rfl d12_27 rfl ?_
      refine go_bipush (64 : Int32) 30 rfl d12_28 rfl ?_
      refine go_irem 31 rfl d12_30 rfl (by decide) ?_
      generalize er : p4 % (64 : Int32) = p8 at ra ⊢
      refine go_goto 35 (by decide) rfl d12_31 ?_
      refine go_istore #[.val (.ref a1), .val (.int p4), .val (.int p5), .val (.int (0 : Int32)), .val (.int (0 : Int32)), .val (.int (0 : Int32)), .val (.int p8), .unset] 37 rfl d12_35 rfl rfl ?_
      refine go_iload 39 rfl d12_37 rfl ?_
      refine go_iload 41 rfl d12_39 rfl ?_
      refine go_icmp 51 44 rfl (by decide) rfl d12_41 rfl (fun (hc41 : (0 : Int) ≠ (0 : Int)) => absurd hc41 (by decide)) (fun (hc41 : ¬ ((0 : Int) ≠ (0 : Int))) => ?_)
      refine go_iloadN 45 rfl d12_44 rfl ?_
      refine go_bipush (64 : Int32) 47 rfl d12_45 rfl ?_
      refine go_irem 48 rfl d12_47 rfl (by decide) ?_
      generalize er2 : p5 % (64 : Int32) = p9 at rb ⊢
      refine go_goto 53 (by decide) rfl d12_48 ?_
      refine go_istore #[.val (.ref a1), .val (.int p4), .val (.int p5), .val (.int (0 : Int32)), .val (.int (0 : Int32)), .val (.int (0 : Int32)), .val (.int p8), .val (.int p9)] 55 rfl d12_53 rfl rfl ?_
      refine go_aloadN 56 rfl d12_55 rfl rfl ?_
      refine go_get 0 1 59 rfl d12_56 rfl rfl rfl (wd hw 30 rfl) ?_
      refine go_iload 61 rfl d12_59 rfl ?_
      refine go_dup2 62 rfl d12_61 rfl rfl rfl ?_
      refine go_laload 63 rfl d12_62 rfl (Mo.el (i := 1) rfl (by decide) rfl) ?_
      refine go_ldc2 (v := (-1 : Int64)) 66 rfl d12_63 (wd hw 44 rfl) ?_
      refine go_bipush (63 : Int32) 68 rfl d12_66 rfl ?_
      refine go_iload 70 rfl d12_68 rfl ?_
      refine go_isub 71 rfl d12_70 rfl ?_
      have fa1 : ((63 : Int32) - p9).toInt = (63 : Int) - p9.toInt := subE rfl rfl (by omega)
      refine go_iload 73 rfl d12_71 rfl ?_
      refine go_iadd 74 rfl d12_73 rfl ?_
      have fa2 : (((63 : Int32) - p9) + p8).toInt = ((63 : Int32) - p9).toInt + p8.toInt := addE rfl rfl (by omega)
      refine go_lushr 75 rfl d12_74 rfl ?_
      refine go_iload 77 rfl d12_75 rfl ?_
      refine go_lshl 78 rfl d12_77 rfl ?_
      refine go_lor 79 rfl d12_78 rfl ?_
      show Go Btk4 Z a0 h0 _ 0 0 (M4 a1 a2 a3 a4 a5 a6 a7 q0 q1 q2 q3 z101 z201 z301 z102 z202 z302 z103 z203 z303 z104 z204 z304 z105 z205 z305 z106 z206 z306 z107 z207 z307 (0 : Int32) (0 : Int32) (0 : Int32)) 79 #[.val (.ref a1), .val (.int p4), .val (.int p5), .val (.int (0 : Int32)), .val (.int (0 : Int32)), .val (.int (0 : Int32)), .val (.int p8), .val (.int p9)] [(.long (q0 ||| ((((-1 : Int64).toUInt64 >>> ((((63 : Int32) - p9) + p8) &&& 0x3f).toInt64.toUInt64).toInt64) <<< (p8 &&& 0x3f).toInt64))), (.int (0 : Int32)), (.ref a2)]
      have hx0 : Fre (P1 p4.toInt (p5.toInt + 1) C) 0 (q0 ||| ((((-1 : Int64).toUInt64 >>> ((((63 : Int32) - p9) + p8) &&& 0x3f).toInt64.toUInt64).toInt64) <<< (p8 &&& 0x3f).toInt64)) := fre_take (u := p8) (v := p9) (d := (((63 : Int32) - p9) + p8)) e0 (by omega) (by omega) (by first | omega | decide) (by first | omega | decide) (by first | omega | decide) (by first | omega | decide) (by first | omega | decide) (by first | omega | decide)
      generalize (q0 ||| ((((-1 : Int64).toUInt64 >>> ((((63 : Int32) - p9) + p8) &&& 0x3f).toInt64.toUInt64).toInt64) <<< (p8 &&& 0x3f).toInt64)) = q70 at hx0 ⊢
      refine go_lastore 1 80 rfl d12_79 rfl rfl (by decide) (lbe rfl) ?_
      refine go_aloadN 81 rfl d12_80 rfl rfl ?_
      refine go_iload 83 rfl d12_81 rfl ?_
      refine go_callP (host := "") 86 rfl d12_83 (Or.inl (wd hw 67 rfl)) (wd hw 68 rfl) (wd hw 69 rfl) (wd hw 9 rfl) (wd hw 10 rfl) (wd hw 70 rfl) (by decide) (Mo.exa (i := 0) rfl) (m_chg4_0_0000 Z a0 hw h0 (P1 p4.toInt (p5.toInt + 1) C) a1 a2 a3 a4 a5 a6 a7 [(.long q70), (.long q1), (.long q2), (.long q3)] [(.long (0 : Int64)), (.long (0 : Int64)), (.long (0 : Int64)), (.long (0 : Int64))] [(.int (0 : Int32)), (.int z101), (.int z102), (.int z103), (.int z104), (.int z105), (.int z106), (.int z107)] [(.int (0 : Int32)), (.int z201), (.int z202), (.int z203), (.int z204), (.int z205), (.int z206), (.int z207)] [(.int (0 : Int32)), (.int z301), (.int z302), (.int z303), (.int z304), (.int z305), (.int z306), (.int z307)] q70 rfl rfl hx0 (lbe rfl) (lbe rfl) (lbe rfl)) (argsL := [(.int (0 : Int32))]) (rest := []) rfl (ps := [.int]) (by decide +kernel) rfl rfl 0 rfl (by decide) (by decide) (by decide) (by decide) ?_
      rintro _ _ ⟨z703, z704, z705, hz703, rfl, rfl⟩
      show Go Btk4 Z a0 h0 _ 0 0 (M4 a1 a2 a3 a4 a5 a6 a7 q70 q1 q2 q3 z101 z201 z301 z102 z202 z302 z103 z203 z303 z703 z704 z705 z105 z205 z305 z106 z206 z306 z107 z207 z307 (1 : Int32) (1 : Int32) (0 : Int32)) 86 #[.val (.ref a1), .val (.int p4), .val (.int p5), .val (.int (0 : Int32)), .val (.int (0 : Int32)), .val (.int (0 : Int32)), .val (.int p8), .val (.int p9)] []
      refine go_iinc #[.val (.ref a1), .val (.int p4), .val (.int p5), .val (.int (0 : Int32)), .val (.int (0 : Int32)), .val (.int (1 : Int32)), .val (.int p8), .val (.int p9)] 89 rfl d12_86 rfl rfl ?_
      refine go_goto 14 (by decide) rfl d12_89 ?_
      refine go_iload 16 rfl d12_14 rfl ?_
      refine go_iload 18 rfl d12_16 rfl ?_
      refine go_icmp 92 21 rfl (by decide) rfl d12_18 rfl (fun (hc18 : (0 : Int) < (1 : Int)) => ?_) (fun (hc18 : ¬ ((0 : Int) < (1 : Int))) => absurd hc18 (by decide))
      exact go_return d12_92 rfl rfl (by decide) (by decide) ⟨_, _, _, _, _, _, _, _, _, _, _, _, _, _, _, _, _, _, _, Inv4.mk (hx0) (fre_out e1 (by omega) (by omega) (by omega)) (fre_out e2 (by omega) (by omega) (by omega)) (fre_out e3 (by omega) (by omega) (by omega)) (hz703) (sm_out s5 (by omega) (by omega) (by omega)) (sm_out s6 (by omega) (by omega) (by omega)) (sm_out s7 (by omega) (by omega) (by omega)) (fun h => absurd h (by decide)) (fun h => absurd h (by decide)) (fun _ => sm_out s3 (by omega) (by omega) (by omega)), rfl, rfl⟩
    · rw [hb]
      have ghb := congrArg Int32.toInt hb; have lhb : (1 : Int32).toInt = 1 := rfl
      refine go_istore #[.val (.ref a1), .val (.int p4), .val (.int p5), .val (.int (0 : Int32)), .val (.int (1 : Int32)), .unset, .unset, .unset] 11 rfl d12_9 rfl rfl ?_
      refine go_iloadN 12 rfl d12_11 rfl ?_
      refine go_istore #[.val (.ref a1), .val (.int p4), .val (.int p5), .val (.int (0 : Int32)), .val (.int (1 : Int32)), .val (.int (0 : Int32)), .unset, .unset] 14 rfl d12_12 rfl rfl ?_
      refine go_iload 16 rfl d12_14 rfl ?_
      refine go_iload 18 rfl d12_16 rfl ?_
      refine go_icmp 92 21 rfl (by decide) rfl d12_18 rfl (fun (hc18 : (1 : Int) < (0 : Int)) => absurd hc18 (by decide)) (fun (hc18 : ¬ ((1 : Int) < (0 : Int))) => ?_)
      refine go_iload 23 rfl d12_21 rfl ?_
      refine go_iloadN 24 rfl d12_23 rfl ?_
      refine go_icmp 34 27 rfl (by decide) rfl d12_24 rfl (fun (hc24 : (0 : Int) ≠ (0 : Int)) => absurd hc24 (by decide)) (fun (hc24 : ¬ ((0 : Int) ≠ (0 : Int))) => ?_)
      refine go_iloadN 28 rfl d12_27 rfl ?_
      refine go_bipush (64 : Int32) 30 rfl d12_28 rfl ?_
      refine go_irem 31 rfl d12_30 rfl (by decide) ?_
      generalize er : p4 % (64 : Int32) = p8 at ra ⊢
      refine go_goto 35 (by decide) rfl d12_31 ?_
      refine go_istore #[.val (.ref a1), .val (.int p4), .val (.int p5), .val (.int (0 : Int32)), .val (.int (1 : Int32)), .val (.int (0 : Int32)), .val (.int p8), .unset] 37 rfl d12_35 rfl rfl ?_
      refine go_iload 39 rfl d12_37 rfl ?_
      refine go_iload 41 rfl d12_39 rfl ?_
      refine go_icmp 51 44 rfl (by decide) rfl d12_41 rfl (fun (hc41 : (0 : Int) ≠ (1 : Int)) => ?_) (fun (hc41 : ¬ ((0 : Int) ≠ (1 : Int))) => absurd hc41 (by decide))
      refine go_bipush (63 : Int32) 53 rfl d12_51 rfl ?_
      refine go_istore #[.val (.ref a1), .val (.int p4), .val (.int p5), .val (.int (0 : Int32)), .val (.int (1 : Int32)), .val (.int (0 : Int32)), .val (.int p8), .val (.int (63 : Int32))] 55 rfl d12_53 rfl rfl ?_
      refine go_aloadN 56 rfl d12_55 rfl rfl ?_
      refine go_get 0 1 59 rfl d12_56 rfl rfl rfl (wd hw 30 rfl) ?_
      refine go_iload 61 rfl d12_59 rfl ?_
      refine go_dup2 62 rfl d12_61 rfl rfl rfl ?_
      refine go_laload 63 rfl d12_62 rfl (Mo.el (i := 1) rfl (by decide) rfl) ?_
      refine go_ldc2 (v := (-1 : Int64)) 66 rfl d12_63 (wd hw 44 rfl) ?_
      refine go_bipush (63 : Int32) 68 rfl d12_66 rfl ?_
      refine go_iload 70 rfl d12_68 rfl ?_
      refine go_isub 71 rfl d12_70 rfl ?_
      refine go_iload 73 rfl d12_71 rfl ?_
      refine go_iadd 74 rfl d12_73 rfl ?_
      have fa3 : ((0 : Int32) + p8).toInt = (0 : Int) + p8.toInt := addE rfl rfl (by omega)
      refine go_lushr 75 rfl d12_74 rfl ?_
      refine go_iload 77 rfl d12_75 rfl ?_
      refine go_lshl 78 rfl d12_77 rfl ?_
      refine go_lor 79 rfl d12_78 rfl ?_
      show Go Btk4 Z a0 h0 _ 0 0 (M4 a1 a2 a3 a4 a5 a6 a7 q0 q1 q2 q3 z101 z201 z301 z102 z202 z302 z103 z203 z303 z104 z204 z304 z105 z205 z305 z106 z206 z306 z107 z207 z307 (0 : Int32) (0 : Int32) (0 : Int32)) 79 #[.val (.ref a1), .val (.int p4), .val (.int p5), .val (.int (0 : Int32)), .val (.int (1 : Int32)), .val (.int (0 : Int32)), .val (.int p8), .val (.int (63 : Int32))] [(.long (q0 ||| ((((-1 : Int64).toUInt64 >>> (((0 : Int32) + p8) &&& 0x3f).toInt64.toUInt64).toInt64) <<< (p8 &&& 0x3f).toInt64))), (.int (0 : Int32)), (.ref a2)]
      have hx0 : Fre (P1 p4.toInt (p5.toInt + 1) C) 0 (q0 ||| ((((-1 : Int64).toUInt64 >>> (((0 : Int32) + p8) &&& 0x3f).toInt64.toUInt64).toInt64) <<< (p8 &&& 0x3f).toInt64)) := fre_take (u := p8) (v := (63 : Int32)) (d := ((0 : Int32) + p8)) e0 (by omega) (by omega) (by first | omega | decide) (by first | omega | decide) (by first | omega | decide) (by first | omega | decide) (by first | omega | decide) (by first | omega | decide)
      generalize (q0 ||| ((((-1 : Int64).toUInt64 >>> (((0 : Int32) + p8) &&& 0x3f).toInt64.toUInt64).toInt64) <<< (p8 &&& 0x3f).toInt64)) = q70 at hx0 ⊢
      refine go_lastore 1 80 rfl d12_79 rfl rfl (by decide) (lbe rfl) ?_
      refine go_aloadN 81 rfl d12_80 rfl rfl ?_
      refine go_iload 83 rfl d12_81 rfl ?_
      refine go_callP (host := "") 86 rfl d12_83 (Or.inl (wd hw 67 rfl)) (wd hw 68 rfl) (wd hw 69 rfl) (wd hw 9 rfl) (wd hw 10 rfl) (wd hw 70 rfl) (by decide) (Mo.exa (i := 0) rfl) (m_chg4_0_0000 Z a0 hw h0 (P1 p4.toInt (p5.toInt + 1) C) a1 a2 a3 a4 a5 a6 a7 [(.long q70), (.long q1), (.long q2), (.long q3)] [(.long (0 : Int64)), (.long (0 : Int64)), (.long (0 : Int64)), (.long (0 : Int64))] [(.int (0 : Int32)), (.int z101), (.int z102), (.int z103), (.int z104), (.int z105), (.int z106), (.int z107)] [(.int (0 : Int32)), (.int z201), (.int z202), (.int z203), (.int z204), (.int z205), (.int z206), (.int z207)] [(.int (0 : Int32)), (.int z301), (.int z302), (.int z303), (.int z304), (.int z305), (.int z306), (.int z307)] q70 rfl rfl hx0 (lbe rfl) (lbe rfl) (lbe rfl)) (argsL := [(.int (0 : Int32))]) (rest := []) rfl (ps := [.int]) (by decide +kernel) rfl rfl 0 rfl (by decide) (by decide) (by decide) (by decide) ?_
      rintro _ _ ⟨z706, z707, z708, hz706, rfl, rfl⟩
      show Go Btk4 Z a0 h0 _ 0 0 (M4 a1 a2 a3 a4 a5 a6 a7 q70 q1 q2 q3 z101 z201 z301 z102 z202 z302 z103 z203 z303 z706 z707 z708 z105 z205 z305 z106 z206 z306 z107 z207 z307 (1 : Int32) (1 : Int32) (0 : Int32)) 86 #[.val (.ref a1), .val (.int p4), .val (.int p5), .val (.int (0 : Int32)), .val (.int (1 : Int32)), .val (.int (0 : Int32)), .val (.int p8), .val (.int (63 : Int32))] []
      refine go_iinc #[.val (.ref a1), .val (.int p4), .val (.int p5), .val (.int (0 : Int32)), .val (.int (1 : Int32)), .val (.int (1 : Int32)), .val (.int p8), .val (.int (63 : Int32))] 89 rfl d12_86 rfl rfl ?_
      refine go_goto 14 (by decide) rfl d12_89 ?_
      refine go_iload 16 rfl d12_14 rfl ?_
      refine go_iload 18 rfl d12_16 rfl ?_
      refine go_icmp 92 21 rfl (by decide) rfl d12_18 rfl (fun (hc18 : (1 : Int) < (1 : Int)) => absurd hc18 (by decide)) (fun (hc18 : ¬ ((1 : Int) < (1 : Int))) => ?_)
      refine go_iload 23 rfl d12_21 rfl ?_
      refine go_iloadN 24 rfl d12_23 rfl ?_
      refine go_icmp 34 27 rfl (by decide) rfl d12_24 rfl (fun (hc24 : (1 : Int) ≠ (0 : Int)) => ?_) (fun (hc24 : ¬ ((1 : Int) ≠ (0 : Int))) => absurd hc24 (by decide))
      refine go_iconst (0 : Int32) 35 rfl d12_34 rfl ?_
      refine go_istore #[.val (.ref a1), .val (.int p4), .val (.int p5), .val (.int (0 : Int32)), .val (.int (1 : Int32)), .val (.int (1 : Int32)), .val (.int (0 : Int32)), .val (.int (63 : Int32))] 37 rfl d12_35 rfl rfl ?_
      refine go_iload 39 rfl d12_37 rfl ?_
      refine go_iload 41 rfl d12_39 rfl ?_
      refine go_icmp 51 44 rfl (by decide) rfl d12_41 rfl (fun (hc41 : (1 : Int) ≠ (1 : Int)) => absurd hc41 (by decide)) (fun (hc41 : ¬ ((1 : Int) ≠ (1 : Int))) => ?_)
      refine go_iloadN 45 rfl d12_44 rfl ?_
      refine go_bipush (64 : Int32) 47 rfl d12_45 rfl ?_
      refine go_irem 48 rfl d12_47 rfl (by decide) ?_
      generalize er2 : p5 % (64 : Int32) = p9 at rb ⊢
      refine go_goto 53 (by decide) rfl d12_48 ?_
      refine go_istore #[.val (.ref a1), .val (.int p4), .val (.int p5), .val (.int (0 : Int32)), .val (.int (1 : Int32)), .val (.int (1 : Int32)), .val (.int (0 : Int32)), .val (.int p9)] 55 rfl d12_53 rfl rfl ?_
      refine go_aloadN 56 rfl d12_55 rfl rfl ?_
      refine go_get 0 1 59 rfl d12_56 rfl rfl rfl (wd hw 30 rfl) ?_
      refine go_iload 61 rfl d12_59 rfl ?_
      refine go_dup2 62 rfl d12_61 rfl rfl rfl ?_
      refine go_laload 63 rfl d12_62 rfl (Mo.el (i := 1) rfl (by decide) rfl) ?_
      refine go_ldc2 (v := (-1 : Int64)) 66 rfl d12_63 (wd hw 44 rfl) ?_
      refine go_bipush (63 : Int32) 68 rfl d12_66 rfl ?_
      refine go_iload 70 rfl d12_68 rfl ?_
      refine go_isub 71 rfl d12_70 rfl ?_
      have fa4 : ((63 : Int32) - p9).toInt = (63 : Int) - p9.toInt := subE rfl rfl (by omega)
      refine go_iload 73 rfl d12_71 rfl ?_
      refine go_iadd 74 rfl d12_73 rfl ?_
      have fa5 : (((63 : Int32) - p9) + (0 : Int32)).toInt = ((63 : Int32) - p9).toInt + (0 : Int) := addE rfl rfl (by omega)
      refine go_lushr 75 rfl d12_74 rfl ?_
      refine go_iload 77 rfl d12_75 rfl ?_
      refine go_lshl 78 rfl d12_77 rfl ?_
      refine go_lor 79 rfl d12_78 rfl ?_
      show Go Btk4 Z a0 h0 _ 0 0 (M4 a1 a2 a3 a4 a5 a6 a7 q70 q1 q2 q3 z101 z201 z301 z102 z202 z302 z103 z203 z303 z706 z707 z708 z105 z205 z305 z106 z206 z306 z107 z207 z307 (1 : Int32) (1 : Int32) (0 : Int32)) 79 #[.val (.ref a1), .val (.int p4), .val (.int p5), .val (.int (0 : Int32)), .val (.int (1 : Int32)), .val (.int (1 : Int32)), .val (.int (0 : Int32)), .val (.int p9)] [(.long (q1 ||| ((((-1 : Int64).toUInt64 >>> ((((63 : Int32) - p9) + (0 : Int32)) &&& 0x3f).toInt64.toUInt64).toInt64) <<< ((0 : Int32) &&& 0x3f).toInt64))), (.int (1 : Int32)), (.ref a2)]
      have hx1 : Fre (P1 p4.toInt (p5.toInt + 1) C) 1 (q1 ||| ((((-1 : Int64).toUInt64 >>> ((((63 : Int32) - p9) + (0 : Int32)) &&& 0x3f).toInt64.toUInt64).toInt64) <<< ((0 : Int32) &&& 0x3f).toInt64)) := fre_take (u := (0 : Int32)) (v := p9) (d := (((63 : Int32) - p9) + (0 : Int32))) e1 (by omega) (by omega) (by first | omega | decide) (by first | omega | decide) (by first | omega | decide) (by first | omega | decide) (by first | omega | decide) (by first | omega | decide)
      generalize (q1 ||| ((((-1 : Int64).toUInt64 >>> ((((63 : Int32) - p9) + (0 : Int32)) &&& 0x3f).toInt64.toUInt64).toInt64) <<< ((0 : Int32) &&& 0x3f).toInt64)) = q71 at hx1 ⊢
      refine go_lastore 1 80 rfl d12_79 rfl rfl (by decide) (lbe rfl) ?_
      refine go_aloadN 81 rfl d12_80 rfl rfl ?_
      refine go_iload 83 rfl d12_81 rfl ?_
      refine go_callP (host := "") 86 rfl d12_83 (Or.inl (wd hw 67 rfl)) (wd hw 68 rfl) (wd hw 69 rfl) (wd hw 9 rfl) (wd hw 10 rfl) (wd hw 70 rfl) (by decide) (Mo.exa (i := 0) rfl) (m_chg4_1_0110 Z a0 hw h0 (P1 p4.toInt (p5.toInt + 1) C) a1 a2 a3 a4 a5 a6 a7 [(.long q70), (.long q71), (.long q2), (.long q3)] [(.long (0 : Int64)), (.long (0 : Int64)), (.long (0 : Int64)), (.long (0 : Int64))] [(.int (0 : Int32)), (.int z101), (.int z102), (.int z103), (.int z706), (.int z105), (.int z106), (.int z107)] [(.int (0 : Int32)), (.int z201), (.int z202), (.int z203), (.int z707), (.int z205), (.int z206), (.int z207)] [(.int (0 : Int32)), (.int z301), (.int z302), (.int z303), (.int z708), (.int z305), (.int z306), (.int z307)] q71 rfl rfl hx1 (lbe rfl) (lbe rfl) (lbe rfl)) (argsL := [(.int (1 : Int32))]) (rest := []) rfl (ps := [.int]) (by decide +kernel) rfl rfl 0 rfl (by decide) (by decide) (by decide) (by decide) ?_
      rintro _ _ ⟨z709, z710, z711, hz709, rfl, rfl⟩
      show Go Btk4 Z a0 h0 _ 0 0 (M4 a1 a2 a3 a4 a5 a6 a7 q70 q71 q2 q3 z101 z201 z301 z102 z202 z302 z103 z203 z303 z706 z707 z708 z709 z710 z711 z106 z206 z306 z107 z207 z307 (1 : Int32) (1 : Int32) (0 : Int32)) 86 #[.val (.ref a1), .val (.int p4), .val (.int p5), .val (.int (0 : Int32)), .val (.int (1 : Int32)), .val (.int (1 : Int32)), .val (.int (0 : Int32)), .val (.int p9)] []
      refine go_iinc #[.val (.ref a1), .val (.int p4), .val (.int p5), .val (.int (0 : Int32)), .val (.int (1 : Int32)), .val (.int (2 : Int32)), .val (.int (0 : Int32)), .val (.int p9)] 89 rfl d12_86 rfl rfl ?_
      refine go_goto 14 (by decide) rfl d12_89 ?_
      refine go_iload 16 rfl d12_14 rfl ?_
      refine go_iload 18 rfl d12_16 rfl ?_
      refine go_icmp 92 21 rfl (by decide) rfl d12_18 rfl (fun (hc18 : (1 : Int) < (2 : Int)) => ?_) (fun (hc18 : ¬ ((1 : Int) < (2 : Int))) => absurd hc18 (by decide))
      exact go_return d12_92 rfl rfl (by decide) (by decide) ⟨_, _, _, _, _, _, _, _, _, _, _, _, _, _, _, _, _, _, _, Inv4.mk (hx0) (hx1) (fre_out e2 (by omega) (by omega) (by omega)) (fre_out e3 (by omega) (by omega) (by omega)) (hz706) (hz709) (sm_out s6 (by omega) (by omega) (by omega)) (sm_out s7 (by omega) (by omega) (by omega)) (fun h => absurd h (by decide)) (fun h => absurd h (by decide)) (fun _ => sm_out s3 (by omega) (by omega) (by omega)), rfl, rfl⟩
    · rw [hb]
      have ghb := congrArg Int32.toInt hb; have lhb : (2 : Int32).toInt = 2 := rfl
      refine go_istore #[.val (.ref a1), .val (.int p4), .val (.int p5), .val (.int (0 : Int32)), .val (.int (2 : Int32)), .unset, .unset, .unset] 11 rfl d12_9 rfl rfl ?_
      refine go_iloadN 12 rfl d12_11 rfl ?_
      refine go_istore #[.val (.ref a1), .val (.int p4), .val (.int p5), .val (.int (0 : Int32)), .val (.int (2 : Int32)), .val (.int (0 : Int32)), .unset, .unset] 14 rfl d12_12 rfl rfl ?_
      refine go_iload 16 rfl d12_14 rfl ?_
      refine go_iload 18 rfl d12_16 rfl ?_
      refine go_icmp 92 21 rfl (by decide) rfl d12_18 rfl (fun (hc18 : (2 : Int) < (0 : Int)) => absurd hc18 (by decide)) (fun (hc18 : ¬ ((2 : Int) < (0 : Int))) => ?_)
      refine go_iload 23 rfl d12_21 rfl ?_
      refine go_iloadN 24 rfl d12_23 rfl ?_
      refine go_icmp 34 27 rfl (by decide) rfl d12_24 rfl (fun (hc24 : (0 : Int) ≠ (0 : Int)) => absurd hc24 (by decide)) (fun (hc24 : ¬ ((0 : Int) ≠ (0 : Int))) => ?_)
      refine go_iloadN 28 rfl d12_27 rfl ?_
      refine go_bipush (64 : Int32) 30 rfl d12_28 rfl ?_
      refine go_irem 31 rfl d12_30 rfl (by decide) ?_
      generalize er : p4 % (64 : Int32) = p8 at ra ⊢
      refine go_goto 35 (by decide) rfl d12_31 ?_
      refine go_istore #[.val (.ref a1), .val (.int p4), .val (.int p5), .val (.int (0 : Int32)), .val (.int (2 : Int32)), .val (.int (0 : Int32)), .val (.int p8), .unset] 37 rfl d12_35 rfl rfl ?_
      refine go_iload 39 rfl d12_37 rfl ?_
      refine go_iload 41 rfl d12_39 rfl ?_
      refine go_icmp 51 44 rfl (by decide) rfl d12_41 rfl (fun (hc41 : (0 : Int) ≠ (2 : Int)) => ?_) (fun (hc41 : ¬ ((0 : Int) ≠ (2 : Int))) => absurd hc41 (by decide))
      refine go_bipush (63 : Int32) 53 rfl d12_51 rfl ?_
      refine go_istore #[.val (.ref a1), .val (.int p4), .val (.int p5), .val (.int (0 : Int32)), .val (.int (2 : Int32)), .val (.int (0 : Int32)), .val (.int p8), .val (.int (63 : Int32))] 55 rfl d12_53 rfl rfl ?_
      refine go_aloadN 56 rfl d12_55 rfl rfl ?_
      refine go_get 0 1 59 rfl d12_56 rfl rfl rfl (wd hw 30 rfl) ?_
      refine go_iload 61 rfl d12_59 rfl ?_
      refine go_dup2 62 rfl d12_61 rfl rfl rfl ?_
      refine go_laload 63 rfl d12_62 rfl (Mo.el (i := 1) rfl (by decide) rfl) ?_
      refine go_ldc2 (v := (-1 : Int64)) 66 rfl d12_63 (wd hw 44 rfl) ?_
      refine go_bipush (63 : Int32) 68 rfl d12_66 rfl ?_
      refine go_iload 70 rfl d12_68 rfl ?_
      refine go_isub 71 rfl d12_70 rfl ?_
      refine go_iload 73 rfl d12_71 rfl ?_
      refine go_iadd 74 rfl d12_73 rfl ?_
      have fa6 : ((0 : Int32) + p8).toInt = (0 : Int) + p8.toInt := addE rfl rfl (by omega)
      refine go_lushr 75 rfl d12_74 rfl ?_
      refine go_iload 77 rfl d12_75 rfl ?_
      refine go_lshl 78 rfl d12_77 rfl ?_
      refine go_lor 79 rfl d12_78 rfl ?_
      show Go Btk4 Z a0 h0 _ 0 0 (M4 a1 a2 a3 a4 a5 a6 a7 q0 q1 q2 q3 z101 z201 z301 z102 z202 z302 z103 z203 z303 z104 z204 z304 z105 z205 z305 z106 z206 z306 z107 z207 z307 (0 : Int32) (0 : Int32) (0 : Int32)) 79 #[.val (.ref a1), .val (.int p4), .val (.int p5), .val (.int (0 : Int32)), .val (.int (2 : Int32)), .val (.int (0 : Int32)), .val (.int p8), .val (.int (63 : Int32))] [(.long (q0 ||| ((((-1 : Int64).toUInt64 >>> (((0 : Int32) + p8) &&& 0x3f).toInt64.toUInt64).toInt64) <<< (p8 &&& 0x3f).toInt64))), (.int (0 : Int32)), (.ref a2)]
      have hx0 : Fre (P1 p4.toInt (p5.toInt + 1) C) 0 (q0 ||| ((((-1 : Int64).toUInt64 >>> (((0 : Int32) + p8) &&& 0x3f).toInt64.toUInt64).toInt64) <<< (p8 &&& 0x3f).toInt64)) := fre_take (u := p8) (v := (63 : Int32)) (d := ((0 : Int32) + p8)) e0 (by omega) (by omega) (by first | omega | decide) (by first | omega | decide) (by first | omega | decide) (by first | omega | decide) (by first | omega | decide) (by first | omega | decide)
      generalize (q0 ||| ((((-1 : Int64).toUInt64 >>> (((0 : Int32) + p8) &&& 0x3f).toInt64.toUInt64).toInt64) <<< (p8 &&& 0x3f).toInt64)) = q70 at hx0 ⊢
      refine go_lastore 1 80 rfl d12_79 rfl rfl (by decide) (lbe rfl) ?_
      refine go_aloadN 81 rfl d12_80 rfl rfl ?_
      refine go_iload 83 rfl d12_81 rfl ?_
      refine go_callP (host := "") 86 rfl d12_83 (Or.inl (wd hw 67 rfl)) (wd hw 68 rfl) (wd hw 69 rfl) (wd hw 9 rfl) (wd hw 10 rfl) (wd hw 70 rfl) (by decide) (Mo.exa (i := 0) rfl) (m_chg4_0_0000 Z a0 hw h0 (P1 p4.toInt (p5.toInt + 1) C) a1 a2 a3 a4 a5 a6 a7 [(.long q70), (.long q1), (.long q2), (.long q3)] [(.long (0 : Int64)), (.long (0 : Int64)), (.long (0 : Int64)), (.long (0 : Int64))] [(.int (0 : Int32)), (.int z101), (.int z102), (.int z103), (.int z104), (.int z105), (.int z106), (.int z107)] [(.int (0 : Int32)), (.int z201), (.int z202), (.int z203), (.int z204), (.int z205), (.int z206), (.int z207)] [(.int (0 : Int32)), (.int z301), (.int z302), (.int z303), (.int z304), (.int z305), (.int z306), (.int z307)] q70 rfl rfl hx0 (lbe rfl) (lbe rfl) (lbe rfl)) (argsL := [(.int (0 : Int32))]) (rest := []) rfl (ps := [.int]) (by decide +kernel) rfl rfl 0 rfl (by decide) (by decide) (by decide) (by decide) ?_
      rintro _ _ ⟨z712, z713, z714, hz712, rfl, rfl⟩
      show Go Btk4 Z a0 h0 _ 0 0 (M4 a1 a2 a3 a4 a5 a6 a7 q70 q1 q2 q3 z101 z201 z301 z102 z202 z302 z103 z203 z303 z712 z713 z714 z105 z205 z305 z106 z206 z306 z107 z207 z307 (1 : Int32) (1 : Int32) (0 : Int32)) 86 #[.val (.ref a1), .val (.int p4), .val (.int p5), .val (.int (0 : Int32)), .val (.int (2 : Int32)), .val (.int (0 : Int32)), .val (.int p8), .val (.int (63 : Int32))] []
      refine go_iinc #[.val (.ref a1), .val (.int p4), .val (.int p5), .val (.int (0 : Int32)), .val (.int (2 : Int32)), .val (.int (1 : Int32)), .val (.int p8), .val (.int (63 : Int32))] 89 rfl d12_86 rfl rfl ?_
      refine go_goto 14 (by decide) rfl d12_89 ?_
      refine go_iload 16 rfl d12_14 rfl ?_
      refine go_iload 18 rfl d12_16 rfl ?_
      refine go_icmp 92 21 rfl (by decide) rfl d12_18 rfl (fun (hc18 : (2 : Int) < (1 : Int)) => absurd hc18 (by decide)) (fun (hc18 : ¬ ((2 : Int) < (1 : Int))) => ?_)
      refine go_iload 23 rfl d12_21 rfl ?_
      refine go_iloadN 24 rfl d12_23 rfl ?_
      refine go_icmp 34 27 rfl (by decide) rfl d12_24 rfl (fun (hc24 : (1 : Int) ≠ (0 : Int)) => ?_) (fun (hc24 : ¬ ((1 : Int) ≠ (0 : Int))) => absurd hc24 (by decide))
      refine go_iconst (0 : Int32) 35 rfl d12_34 rfl ?_
      refine go_istore #[.val (.ref a1), .val (.int p4), .val (.int p5), .val (.int (0 : Int32)), .val (.int (2 : Int32)), .val (.int (1 : Int32)), .val (.int (0 : Int32)), .val (.int (63 : Int32))] 37 rfl d12_35 rfl rfl ?_
      refine go_iload 39 rfl d12_37 rfl ?_
      refine go_iload 41 rfl d12_39 rfl ?_
      refine go_icmp 51 44 rfl (by decide) rfl d12_41 rfl (fun (hc41 : (1 : Int) ≠ (2 : Int)) => ?_) (fun (hc41 : ¬ ((1 : Int) ≠ (2 : Int))) => absurd hc41 (by decide))
      refine go_bipush (63 : Int32) 53 rfl d12_51 rfl ?_
      refine go_istore #[.val (.ref a1), .val (.int p4), .val (.int p5), .val (.int (0 : Int32)), .val (.int (2 : Int32)), .val (.int (1 : Int32)), .val (.int (0 : Int32)), .val (.int (63 : Int32))] 55 rfl d12_53 rfl rfl ?_
      refine go_aloadN 56 rfl d12_55 rfl rfl ?_
      refine go_get 0 1 59 rfl d12_56 rfl rfl rfl (wd hw 30 rfl) ?_
      refine go_iload 61 rfl d12_59 rfl ?_
      refine go_dup2 62 rfl d12_61 rfl rfl rfl ?_
      refine go_laload 63 rfl d12_62 rfl (Mo.el (i := 1) rfl (by decide) rfl) ?_
      refine go_ldc2 (v := (-1 : Int64)) 66 rfl d12_63 (wd hw 44 rfl) ?_
      refine go_bipush (63 : Int32) 68 rfl d12_66 rfl ?_
      refine go_iload 70 rfl d12_68 rfl ?_
      refine go_isub 71 rfl d12_70 rfl ?_
      refine go_iload 73 rfl d12_71 rfl ?_
      refine go_iadd 74 rfl d12_73 rfl ?_
      refine go_lushr 75 rfl d12_74 rfl ?_
      refine go_iload 77 rfl d12_75 rfl ?_
      refine go_lshl 78 rfl d12_77 rfl ?_
      refine go_lor 79 rfl d12_78 rfl ?_
      show Go Btk4 Z a0 h0 _ 0 0 (M4 a1 a2 a3 a4 a5 a6 a7 q70 q1 q2 q3 z101 z201 z301 z102 z202 z302 z103 z203 z303 z712 z713 z714 z105 z205 z305 z106 z206 z306 z107 z207 z307 (1 : Int32) (1 : Int32) (0 : Int32)) 79 #[.val (.ref a1), .val (.int p4), .val (.int p5), .val (.int (0 : Int32)), .val (.int (2 : Int32)), .val (.int (1 : Int32)), .val (.int (0 : Int32)), .val (.int (63 : Int32))] [(.long (q1 ||| ((((-1 : Int64).toUInt64 >>> ((0 : Int32) &&& 0x3f).toInt64.toUInt64).toInt64) <<< ((0 : Int32) &&& 0x3f).toInt64))), (.int (1 : Int32)), (.ref a2)]
      have hx1 : Fre (P1 p4.toInt (p5.toInt + 1) C) 1 (q1 ||| ((((-1 : Int64).toUInt64 >>> ((0 : Int32) &&& 0x3f).toInt64.toUInt64).toInt64) <<< ((0 : Int32) &&& 0x3f).toInt64)) := fre_take (u := (0 : Int32)) (v := (63 : Int32)) (d := (0 : Int32)) e1 (by omega) (by omega) (by first | omega | decide) (by first | omega | decide) (by first | omega | decide) (by first | omega | decide) (by first | omega | decide) (by first | omega | decide)
      generalize (q1 ||| ((((-1 : Int64).toUInt64 >>> ((0 : Int32) &&& 0x3f).toInt64.toUInt64).toInt64) <<< ((0 : Int32) &&& 0x3f).toInt64)) = q71 at hx1 ⊢
      refine go_lastore 1 80 rfl d12_79 rfl rfl (by decide) (lbe rfl) ?_
      refine go_aloadN 81 rfl d12_80 rfl rfl ?_
      refine go_iload 83 rfl d12_81 rfl ?_
      refine go_callP (host := "") 86 rfl d12_83 (Or.inl (wd hw 67 rfl)) (wd hw 68 rfl) (wd hw 69 rfl) (wd hw 9 rfl) (wd hw 10 rfl) (wd hw 70 rfl) (by decide) (Mo.exa (i := 0) rfl) (m_chg4_1_0110 Z a0 hw h0 (P1 p4.toInt (p5.toInt + 1) C) a1 a2 a3 a4 a5 a6 a7 [(.long q70), (.long q71), (.long q2), (.long q3)] [(.long (0 : Int64)), (.long (0 : Int64)), (.long (0 : Int64)), (.long (0 : Int64))] [(.int (0 : Int32)), (.int z101), (.int z102), (.int z103), (.int z712), (.int z105), (.int z106), (.int z107)] [(.int (0 : Int32)), (.int z201), (.int z202), (.int z203), (.int z713), (.int z205), (.int z206), (.int z207)] [(.int (0 : Int32)), (.int z301), (.int z302), (.int z303), (.int z714), (.int z305), (.int z306), (.int z307)] q71 rfl rfl hx1 (lbe rfl) (lbe rfl) (lbe rfl)) (argsL := [(.int (1 : Int32))]) (rest := []) rfl (ps := [.int]) (by decide +kernel) rfl rfl 0 rfl (by decide) (by decide) (by decide) (by decide) ?_
      rintro _ _ ⟨z715, z716, z717, hz715, rfl, rfl⟩
      show Go Btk4 Z a0 h0 _ 0 0 (M4 a1 a2 a3 a4 a5 a6 a7 q70 q71 q2 q3 z101 z201 z301 z102 z202 z302 z103 z203 z303 z712 z713 z714 z715 z716 z717 z106 z206 z306 z107 z207 z307 (1 : Int32) (1 : Int32) (0 : Int32)) 86 #[.val (.ref a1), .val (.int p4), .val (.int p5), .val (.int (0 : Int32)), .val (.int (2 : Int32)), .val (.int (1 : Int32)), .val (.int (0 : Int32)), .val (.int (63 : Int32))] []
      refine go_iinc #[.val (.ref a1), .val (.int p4), .val (.int p5), .val (.int (0 : Int32)), .val (.int (2 : Int32)), .val (.int (2 : Int32)), .val (.int (0 : Int32)), .val (.int (63 : Int32))] 89 rfl d12_86 rfl rfl ?_
      refine go_goto 14 (by decide) rfl d12_89 ?_
      refine go_iload 16 rfl d12_14 rfl ?_
      refine go_iload 18 rfl d12_16 rfl ?_
      refine go_icmp 92 21 rfl (by decide) rfl d12_18 rfl (fun (hc18 : (2 : Int) < (2 : Int)) => absurd hc18 (by decide)) (fun (hc18 : ¬ ((2 : Int) < (2 : Int))) => ?_)
      refine go_iload 23 rfl d12_21 rfl ?_
      refine go_iloadN 24 rfl d12_23 rfl ?_
      refine go_icmp 34 27 rfl (by decide) rfl d12_24 rfl (fun (hc24 : (2 : Int) ≠ (0 : Int)) => ?_) (fun (hc24 : ¬ ((2 : Int) ≠ (0 : Int))) => absurd hc24 (by decide))
      refine go_iconst (0 : Int32) 35 rfl d12_34 rfl ?_
      refine go_istore #[.val (.ref a1), .val (.int p4), .val (.int p5), .val (.int (0 : Int32)), .val (.int (2 : Int32)), .val (.int (2 : Int32)), .val (.int (0 : Int32)), .val (.int (63 : Int32))] 37 rfl d12_35 rfl rfl ?_
      refine go_iload 39 rfl d12_37 rfl ?_
      refine go_iload 41 rfl d12_39 rfl ?_
      refine go_icmp 51 44 rfl (by decide) rfl d12_41 rfl (fun (hc41 : (2 : Int) ≠ (2 : Int)) => absurd hc41 (by decide)) (fun (hc41 : ¬ ((2 : Int) ≠ (2 : Int))) => ?_)
      refine go_iloadN 45 rfl d12_44 rfl ?_
      refine go_bipush (64 : Int32) 47 rfl d12_45 rfl ?_
      refine go_irem 48 rfl d12_47 rfl (by decide) ?_
      generalize er2 : p5 % (64 : Int32) = p9 at rb ⊢
      refine go_goto 53 (by decide) rfl d12_48 ?_
      refine go_istore #[.val (.ref a1), .val (.int p4), .val (.int p5), .val (.int (0 : Int32)), .val (.int (2 : Int32)), .val (.int (2 : Int32)), .val (.int (0 : Int32)), .val (.int p9)] 55 rfl d12_53 rfl rfl ?_
      refine go_aloadN 56 rfl d12_55 rfl rfl ?_
      refine go_get 0 1 59 rfl d12_56 rfl rfl rfl (wd hw 30 rfl) ?_
      refine go_iload 61 rfl d12_59 rfl ?_
      refine go_dup2 62 rfl d12_61 rfl rfl rfl ?_
      refine go_laload 63 rfl d12_62 rfl (Mo.el (i := 1) rfl (by decide) rfl) ?_
      refine go_ldc2 (v := (-1 : Int64)) 66 rfl d12_63 (wd hw 44 rfl) ?_
      refine go_bipush (63 : Int32) 68 rfl d12_66 rfl ?_
      refine go_iload 70 rfl d12_68 rfl ?_
      refine go_isub 71 rfl d12_70 rfl ?_
      have fa7 : ((63 : Int32) - p9).toInt = (63 : Int) - p9.toInt := subE rfl rfl (by omega)
      refine go_iload 73 rfl d12_71 rfl ?_
      refine go_iadd 74 rfl d12_73 rfl ?_
      have fa8 : (((63 : Int32) - p9) + (0 : Int32)).toInt = ((63 : Int32) - p9).toInt + (0 : Int) := addE rfl rfl (by omega)
      refine go_lushr 75 rfl d12_74 rfl ?_
      refine go_iload 77 rfl d12_75 rfl ?_
      refine go_lshl 78 rfl d12_77 rfl ?_
      refine go_lor 79 rfl d12_78 rfl ?_
      show Go Btk4 Z a0 h0 _ 0 0 (M4 a1 a2 a3 a4 a5 a6 a7 q70 q71 q2 q3 z101 z201 z301 z102 z202 z302 z103 z203 z303 z712 z713 z714 z715 z716 z717 z106 z206 z306 z107 z207 z307 (1 : Int32) (1 : Int32) (0 : Int32)) 79 #[.val (.ref a1), .val (.int p4), .val (.int p5), .val (.int (0 : Int32)), .val (.int (2 : Int32)), .val (.int (2 : Int32)), .val (.int (0 : Int32)), .val (.int p9)] [(.long (q2 ||| ((((-1 : Int64).toUInt64 >>> ((((63 : Int32) - p9) + (0 : Int32)) &&& 0x3f).toInt64.toUInt64).toInt64) <<< ((0 : Int32) &&& 0x3f).toInt64))), (.int (2 : Int32)), (.ref a2)]
      have hx2 : Fre (P1 p4.toInt (p5.toInt + 1) C) 2 (q2 ||| ((((-1 : Int64).toUInt64 >>> ((((63 : Int32) - p9) + (0 : Int32)) &&& 0x3f).toInt64.toUInt64).toInt64) <<< ((0 : Int32) &&& 0x3f).toInt64)) := fre_take (u := (0 : Int32)) (v := p9) (d := (((63 : Int32) - p9) + (0 : Int32))) e2 (by omega) (by omega) (by first | omega | decide) (by first | omega | decide) (by first | omega | decide) (by first | omega | decide) (by first | omega | decide) (by first | omega | decide)
      generalize (q2 ||| ((((-1 : Int64).toUInt64 >>> ((((63 : Int32) - p9) + (0 : Int32)) &&& 0x3f).toInt64.toUInt64).toInt64) <<< ((0 : Int32) &&& 0x3f).toInt64)) = q72 at hx2 ⊢
      refine go_lastore 1 80 rfl d12_79 rfl rfl (by decide) (lbe rfl) ?_
      refine go_aloadN 81 rfl d12_80 rfl rfl ?_
      refine go_iload 83 rfl d12_81 rfl ?_
      refine go_callP (host := "") 86 rfl d12_83 (Or.inl (wd hw 67 rfl)) (wd hw 68 rfl) (wd hw 69 rfl) (wd hw 9 rfl) (wd hw 10 rfl) (wd hw 70 rfl) (by decide) (Mo.exa (i := 0) rfl) (m_chg4_2_0110 Z a0 hw h0 (P1 p4.toInt (p5.toInt + 1) C) a1 a2 a3 a4 a5 a6 a7 [(.long q70), (.long q71), (.long q72), (.long q3)] [(.long (0 : Int64)), (.long (0 : Int64)), (.long (0 : Int64)), (.long (0 : Int64))] [(.int (0 : Int32)), (.int z101), (.int z102), (.int z103), (.int z712), (.int z715), (.int z106), (.int z107)] [(.int (0 : Int32)), (.int z201), (.int z202), (.int z203), (.int z713), (.int z716), (.int z206), (.int z207)] [(.int (0 : Int32)), (.int z301), (.int z302), (.int z303), (.int z714), (.int z717), (.int z306), (.int z307)] q72 rfl rfl hx2 (lbe rfl) (lbe rfl) (lbe rfl)) (argsL := [(.int (2 : Int32))]) (rest := []) rfl (ps := [.int]) (by decide +kernel) rfl rfl 0 rfl (by decide) (by decide) (by decide) (by decide) ?_
      rintro _ _ ⟨z718, z719, z720, hz718, rfl, rfl⟩
      show Go Btk4 Z a0 h0 _ 0 0 (M4 a1 a2 a3 a4 a5 a6 a7 q70 q71 q72 q3 z101 z201 z301 z102 z202 z302 z103 z203 z303 z712 z713 z714 z715 z716 z717 z718 z719 z720 z107 z207 z307 (1 : Int32) (1 : Int32) (1 : Int32)) 86 #[.val (.ref a1), .val (.int p4), .val (.int p5), .val (.int (0 : Int32)), .val (.int (2 : Int32)), .val (.int (2 : Int32)), .val (.int (0 : Int32)), .val (.int p9)] []
      refine go_iinc #[.val (.ref a1), .val (.int p4), .val (.int p5), .val (.int (0 : Int32)), .val (.int (2 : Int32)), .val (.int (3 : Int32)), .val (.int (0 : Int32)), .val (.int p9)] 89 rfl d12_86 rfl rfl ?_
      refine go_goto 14 (by decide) rfl d12_89 ?_
      refine go_iload 16 rfl d12_14 rfl ?_
      refine go_iload 18 rfl d12_16 rfl ?_
      refine go_icmp 92 21 rfl (by decide) rfl d12_18 rfl (fun (hc18 : (2 : Int) < (3 : Int)) => ?_) (fun (hc18 : ¬ ((2 : Int) < (3 : Int))) => absurd hc18 (by decide))
      exact go_return d12_92 rfl rfl (by decide) (by decide) ⟨_, _, _, _, _, _, _, _, _, _, _, _, _, _, _, _, _, _, _, Inv4.mk (hx0) (hx1) (hx2) (fre_out e3 (by omega) (by omega) (by omega)) (hz712) (hz715) (hz718) (sm_out s7 (by omega) (by omega) (by omega)) (fun h => absurd h (by decide)) (fun h => absurd h (by decide)) (fun h => absurd h (by decide)), rfl, rfl⟩
    · rw [hb]
      have ghb := congrArg Int32.toInt hb; have lhb : (3 : Int32).toInt = 3 := rfl
      refine go_istore #[.val (.ref a1), .val (.int p4), .val (.int p5), .val (.int (0 : Int32)), .val (.int (3 : Int32)), .unset, .unset, .unset] 11 rfl d12_9 rfl rfl ?_
      refine go_iloadN 12 rfl d12_11 rfl ?_
      refine go_istore #[.val (.ref a1), .val (.int p4), .val (.int p5), .val (.int (0 : Int32)), .val (.int (3 : Int32)), .val (.int (0 : Int32)), .unset, .unset] 14 rfl d12_12 rfl rfl ?_
      refine go_iload 16 rfl d12_14 rfl ?_
      refine go_iload 18 rfl d12_16 rfl ?_
      refine go_icmp 92 21 rfl (by decide) rfl d12_18 rfl (fun (hc18 : (3 : Int) < (0 : Int)) => absurd hc18 (by decide)) (fun (hc18 : ¬ ((3 : Int) < (0 : Int))) => ?_)
      refine go_iload 23 rfl d12_21 rfl ?_
      refine go_iloadN 24 rfl d12_23 rfl ?_
      refine go_icmp 34 27 rfl (by decide) rfl d12_24 rfl (fun (hc24 : (0 : Int) ≠ (0 : Int)) => absurd hc24 (by decide)) (fun (hc24 : ¬ ((0 : Int) ≠ (0 : Int))) => ?_)
      refine go_iloadN 28 rfl d12_27 rfl ?_
      refine go_bipush (64 : Int32) 30 rfl d12_28 rfl ?_
      refine go_irem 31 rfl d12_30 rfl (by decide) ?_
      generalize er : p4 % (64 : Int32) = p8 at ra ⊢
      refine go_goto 35 (by decide) rfl d12_31 ?_
      refine go_istore #[.val (.ref a1), .val (.int p4), .val (.int p5), .val (.int (0 : Int32)), .val (.int (3 : Int32)), .val (.int (0 : Int32)), .val (.int p8), .unset] 37 rfl d12_35 rfl rfl ?_
      refine go_iload 39 rfl d12_37 rfl ?_
      refine go_iload 41 rfl d12_39 rfl ?_
      refine go_icmp 51 44 rfl (by decide) rfl d12_41 rfl (fun (hc41 : (0 : Int) ≠ (3 : Int)) => ?_) (fun (hc41 : ¬ ((0 : Int) ≠ (3 : Int))) => absurd hc41 (by decide))
      refine go_bipush (63 : Int32) 53 rfl d12_51 rfl ?_
      refine go_istore #[.val (.ref a1), .val (.int p4), .val (.int p5), .val (.int (0 : Int32)), .val (.int (3 : Int32)), .val (.int (0 : Int32)), .val (.int p8), .val (.int (63 : Int32))] 55 rfl d12_53 rfl rfl ?_
      refine go_aloadN 56 rfl d12_55 rfl rfl ?_
      refine go_get 0 1 59 rfl d12_56 rfl rfl rfl (wd hw 30 rfl) ?_
      refine go_iload 61 rfl d12_59 rfl ?_
      refine go_dup2 62 rfl d12_61 rfl rfl rfl ?_
      refine go_laload 63 rfl d12_62 rfl (Mo.el (i := 1) rfl (by decide) rfl) ?_
      refine go_ldc2 (v := (-1 : Int64)) 66 rfl d12_63 (wd hw 44 rfl) ?_
      refine go_bipush (63 : Int32) 68 rfl d12_66 rfl ?_
      refine go_iload 70 rfl d12_68 rfl ?_
      refine go_isub 71 rfl d12_70 rfl ?_
      refine go_iload 73 rfl d12_71 rfl ?_
      refine go_iadd 74 rfl d12_73 rfl ?_
      have fa9 : ((0 : Int32) + p8).toInt = (0 : Int) + p8.toInt := addE rfl rfl (by omega)
      refine go_lushr 75 rfl d12_74 rfl ?_
      refine go_iload 77 rfl d12_75 rfl ?_
      refine go_lshl 78 rfl d12_77 rfl ?_
      refine go_lor 79 rfl d12_78 rfl ?_
      show Go Btk4 Z a0 h0 _ 0 0 (M4 a1 a2 a3 a4 a5 a6 a7 q0 q1 q2 q3 z101 z201 z301 z102 z202 z302 z103 z203 z303 z104 z204 z304 z105 z205 z305 z106 z206 z306 z107 z207 z307 (0 : Int32) (0 : Int32) (0 : Int32)) 79 #[.val (.ref a1), .val (.int p4), .val (.int p5), .val (.int (0 : Int32)), .val (.int (3 : Int32)), .val (.int (0 : Int32)), .val (.int p8), .val (.int (63 : Int32))] [(.long (q0 ||| ((((-1 : Int64).toUInt64 >>> (((0 : Int32) + p8) &&& 0x3f).toInt64.toUInt64).toInt64) <<< (p8 &&& 0x3f).toInt64))), (.int (0 : Int32)), (.ref a2)]
      have hx0 : Fre (P1 p4.toInt (p5.toInt + 1) C) 0 (q0 ||| ((((-1 : Int64).toUInt64 >>> (((0 : Int32) + p8) &&& 0x3f).toInt64.toUInt64).toInt64) <<< (p8 &&& 0x3f).toInt64)) := fre_take (u := p8) (v := (63 : Int32)) (d := ((0 : Int32) + p8)) e0 (by omega) (by omega) (by first | omega | decide) (by first | omega | decide) (by first | omega | decide) (by first | omega | decide) (by first | omega | decide) (by first | omega | decide)
      generalize (q0 ||| ((((-1 : Int64).toUInt64 >>> (((0 : Int32) + p8) &&& 0x3f).toInt64.toUInt64).toInt64) <<< (p8 &&& 0x3f).toInt64)) = q70 at hx0 ⊢
      refine go_lastore 1 80 rfl d12_79 rfl rfl (by decide) (lbe rfl) ?_
      refine go_aloadN 81 rfl d12_80 rfl rfl ?_
      refine go_iload 83 rfl d12_81 rfl ?_
      refine go_callP (host := "") 86 rfl d12_83 (Or.inl (wd hw 67 rfl)) (wd hw 68 rfl) (wd hw 69 rfl) (wd hw 9 rfl) (wd hw 10 rfl) (wd hw 70 rfl) (by decide) (Mo.exa (i := 0) rfl) (m_chg4_0_0000 Z a0 hw h0 (P1 p4.toInt (p5.toInt + 1) C) a1 a2 a3 a4 a5 a6 a7 [(.long q70), (.long q1), (.long q2), (.long q3)] [(.long (0 : Int64)), (.long (0 : Int64)), (.long (0 : Int64)), (.long (0 : Int64))] [(.int (0 : Int32)), (.int z101), (.int z102), (.int z103), (.int z104), (.int z105), (.int z106), (.int z107)] [(.int (0 : Int32)), (.int z201), (.int z202), (.int z203), (.int z204), (.int z205), (.int z206), (.int z207)] [(.int (0 : Int32)), (.int z301), (.int z302), (.int z303), (.int z304), (.int z305), (.int z306), (.int z307)] q70 rfl rfl hx0 (lbe rfl) (lbe rfl) (lbe rfl)) (argsL := [(.int (0 : Int32))]) (rest := []) rfl (ps := [.int]) (by decide +kernel) rfl rfl 0 rfl (by decide) (by decide) (by decide) (by decide) ?_
      rintro _ _ ⟨z721, z722, z723, hz721, rfl, rfl⟩
      show Go Btk4 Z a0 h0 _ 0 0 (M4 a1 a2 a3 a4 a5 a6 a7 q70 q1 q2 q3 z101 z201 z301 z102 z202 z302 z103 z203 z303 z721 z722 z723 z105 z205 z305 z106 z206 z306 z107 z207 z307 (1 : Int32) (1 : Int32) (0 : Int32)) 86 #[.val (.ref a1), .val (.int p4), .val (.int p5), .val (.int (0 : Int32)), .val (.int (3 : Int32)), .val (.int (0 : Int32)), .val (.int p8), .val (.int (63 : Int32))] []
      refine go_iinc #[.val (.ref a1), .val (.int p4), .val (.int p5), .val (.int (0 : Int32)), .val (.int (3 : Int32)), .val (.int (1 : Int32)), .val (.int p8), .val (.int (63 : Int32))] 89 rfl d12_86 rfl rfl ?_
      refine go_goto 14 (by decide) rfl d12_89 ?_
      refine go_iload 16 rfl d12_14 rfl ?_
      refine go_iload 18 rfl d12_16 rfl ?_
      refine go_icmp 92 21 rfl (by decide) rfl d12_18 rfl (fun (hc18 : (3 : Int) < (1 : Int)) => absurd hc18 (by decide)) (fun (hc18 : ¬ ((3 : Int) < (1 : Int))) => ?_)
      refine go_iload 23 rfl d12_21 rfl ?_
      refine go_iloadN 24 rfl d12_23 rfl ?_
      refine go_icmp 34 27 rfl (by decide) rfl d12_24 rfl (fun (hc24 : (1 : Int) ≠ (0 : Int)) => ?_) (fun (hc24 : ¬ ((1 : Int) ≠ (0 : Int))) => absurd hc24 (by decide))
      refine go_iconst (0 : Int32) 35 rfl d12_34 rfl ?_
      refine go_istore #[.val (.ref a1), .val (.int p4), .val (.int p5), .val (.int (0 : Int32)), .val (.int (3 : Int32)), .val (.int (1 : Int32)), .val (.int (0 : Int32)), .val (.int (63 : Int32))] 37 rfl d12_35 rfl rfl ?_
      refine go_iload 39 rfl d12_37 rfl ?_
      refine go_iload 41 rfl d12_39 rfl ?_
      refine go_icmp 51 44 rfl (by decide) rfl d12_41 rfl (fun (hc41 : (1 : Int) ≠ (3 : Int)) => ?_) (fun (hc41 : ¬ ((1 : Int) ≠ (3 : Int))) => absurd hc41 (by decide))
      refine go_bipush (63 : Int32) 53 rfl d12_51 rfl ?_
      refine go_istore #[.val (.ref a1), .val (.int p4), .val (.int p5), .val (.int (0 : Int32)), .val (.int (3 : Int32)), .val (.int (1 : Int32)), .val (.int (0 : Int32)), .val (.int (63 : Int32))] 55 rfl d12_53 rfl rfl ?_
      refine go_aloadN 56 rfl d12_55 rfl rfl ?_
      refine go_get 0 1 59 rfl d12_56 rfl rfl rfl (wd hw 30 rfl) ?_
      refine go_iload 61 rfl d12_59 rfl ?_
      refine go_dup2 62 rfl d12_61 rfl rfl rfl ?_
      refine go_laload 63 rfl d12_62 rfl (Mo.el (i := 1) rfl (by decide) rfl) ?_
      refine go_ldc2 (v := (-1 : Int64)) 66 rfl d12_63 (wd hw 44 rfl) ?_
      refine go_bipush (63 : Int32) 68 rfl d12_66 rfl ?_
      refine go_iload 70 rfl d12_68 rfl ?_
      refine go_isub 71 rfl d12_70 rfl ?_
      refine go_iload 73 rfl d12_71 rfl ?_
      refine go_iadd 74 rfl d12_73 rfl ?_
      refine go_lushr 75 rfl d12_74 rfl ?_
      refine go_iload 77 rfl d12_75 rfl ?_
      refine go_lshl 78 rfl d12_77 rfl ?_
      refine go_lor 79 rfl d12_78 rfl ?_
      show Go Btk4 Z a0 h0 _ 0 0 (M4 a1 a2 a3 a4 a5 a6 a7 q70 q1 q2 q3 z101 z201 z301 z102 z202 z302 z103 z203 z303 z721 z722 z723 z105 z205 z305 z106 z206 z306 z107 z207 z307 (1 : Int32) (1 : Int32) (0 : Int32)) 79 #[.val (.ref a1), .val (.int p4), .val (.int p5), .val (.int (0 : Int32)), .val (.int (3 : Int32)), .val (.int (1 : Int32)), .val (.int (0 : Int32)), .val (.int (63 : Int32))] [(.long (q1 ||| ((((-1 : Int64).toUInt64 >>> ((0 : Int32) &&& 0x3f).toInt64.toUInt64).toInt64) <<< ((0 : Int32) &&& 0x3f).toInt64))), (.int (1 : Int32)), (.ref a2)]
      have hx1 : Fre (P1 p4.toInt (p5.toInt + 1) C) 1 (q1 ||| ((((-1 : Int64).toUInt64 >>> ((0 : Int32) &&& 0x3f).toInt64.toUInt64).toInt64) <<< ((0 : Int32) &&& 0x3f).toInt64)) := fre_take (u := (0 : Int32)) (v := (63 : Int32)) (d := (0 : Int32)) e1 (by omega) (by omega) (by first | omega | decide) (by first | omega | decide) (by first | omega | decide) (by first | omega | decide) (by first | omega | decide) (by first | omega | decide)
      generalize (q1 ||| ((((-1 : Int64).toUInt64 >>> ((0 : Int32) &&& 0x3f).toInt64.toUInt64).toInt64) <<< ((0 : Int32) &&& 0x3f).toInt64)) = q71 at hx1 ⊢
      refine go_lastore 1 80 rfl d12_79 rfl rfl (by decide) (lbe rfl) ?_
      refine go_aloadN 81 rfl d12_80 rfl rfl ?_
      refine go_iload 83 rfl d12_81 rfl ?_
      refine go_callP (host := "") 86 rfl d12_83 (Or.inl (wd hw 67 rfl)) (wd hw 68 rfl) (wd hw 69 rfl) (wd hw 9 rfl) (wd hw 10 rfl) (wd hw 70 rfl) (by decide) (Mo.exa (i := 0) rfl) (m_chg4_1_0110 Z a0 hw h0 (P1 p4.toInt (p5.toInt + 1) C) a1 a2 a3 a4 a5 a6 a7 [(.long q70), (.long q71), (.long q2), (.long q3)] [(.long (0 : Int64)), (.long (0 : Int64)), (.long (0 : Int64)), (.long (0 : Int64))] [(.int (0 : Int32)), (.int z101), (.int z102), (.int z103), (.int z721), (.int z105), (.int z106), (.int z107)] [(.int (0 : Int32)), (.int z201), (.int z202), (.int z203), (.int z722), (.int z205), (.int z206), (.int z207)] [(.int (0 : Int32)), (.int z301), (.int z302), (.int z303), (.int z723), (.int z305), (.int z306), (.int z307)] q71 rfl rfl hx1 (lbe rfl) (lbe rfl) (lbe rfl)) (argsL := [(.int (1 : Int32))]) (rest := []) rfl (ps := [.int]) (by decide +kernel) rfl rfl 0 rfl (by decide) (by decide) (by decide) (by decide) ?_
      rintro _ _ ⟨z724, z725, z726, hz724, rfl, rfl⟩
      show Go Btk4 Z a0 h0 _ 0 0 (M4 a1 a2 a3 a4 a5 a6 a7 q70 q71 q2 q3 z101 z201 z301 z102 z202 z302 z103 z203 z303 z721 z722 z723 z724 z725 z726 z106 z206 z306 z107 z207 z307 (1 : Int32) (1 : Int32) (0 : Int32)) 86 #[.val (.ref a1), .val (.int p4), .val (.int p5), .val (.int (0 : Int32)), .val (.int (3 : Int32)), .val (.int (1 : Int32)), .val (.int (0 : Int32)), .val (.int (63 : Int32))] []
      refine go_iinc #[.val (.ref a1), .val (.int p4), .val (.int p5), .val (.int (0 : Int32)), .val (.int (3 : Int32)), .val (.int (2 : Int32)), .val (.int (0 : Int32)), .val (.int (63 : Int32))] 89 rfl d12_86 rfl rfl ?_
      refine go_goto 14 (by decide) rfl d12_89 ?_
      refine go_iload 16 rfl d12_14 rfl ?_
      refine go_iload 18 rfl d12_16 rfl ?_
      refine go_icmp 92 21 rfl (by decide) rfl d12_18 rfl (fun (hc18 : (3 : Int) < (2 : Int)) => absurd hc18 (by decide)) (fun (hc18 : ¬ ((3 : Int) < (2 : Int))) => ?_)
      refine go_iload 23 rfl d12_21 rfl ?_
      refine go_iloadN 24 rfl d12_23 rfl ?_
      refine go_icmp 34 27 rfl (by decide) rfl d12_24 rfl (fun (hc24 : (2 : Int) ≠ (0 : Int)) => ?_) (fun (hc24 : ¬ ((2 : Int) ≠ (0 : Int))) => absurd hc24 (by decide))
      refine go_iconst (0 : Int32) 35 rfl d12_34 rfl ?_
      refine go_istore #[.val (.ref a1), .val (.int p4), .val (.int p5), .val (.int (0 : Int32)), .val (.int (3 : Int32)), .val (.int (2 : Int32)), .val (.int (0 : Int32)), .val (.int (63 : Int32))] 37 rfl d12_35 rfl rfl ?_
      refine go_iload 39 rfl d12_37 rfl ?_
      refine go_iload 41 rfl d12_39 rfl ?_
      refine go_icmp 51 44 rfl (by decide) rfl d12_41 rfl (fun (hc41 : (2 : Int) ≠ (3 : Int)) => ?_) (fun (hc41 : ¬ ((2 : Int) ≠ (3 : Int))) => absurd hc41 (by decide))
      refine go_bipush (63 : Int32) 53 rfl d12_51 rfl ?_
      refine go_istore #[.val (.ref a1), .val (.int p4), .val (.int p5), .val (.int (0 : Int32)), .val (.int (3 : Int32)), .val (.int (2 : Int32)), .val (.int (0 : Int32)), .val (.int (63 : Int32))] 55 rfl d12_53 rfl rfl ?_
      refine go_aloadN 56 rfl d12_55 rfl rfl ?_
      refine go_get 0 1 59 rfl d12_56 rfl rfl rfl (wd hw 30 rfl) ?_
      refine go_iload 61 rfl d12_59 rfl ?_
      refine go_dup2 62 rfl d12_61 rfl rfl rfl ?_
      refine go_laload 63 rfl d12_62 rfl (Mo.el (i := 1) rfl (by decide) rfl) ?_
      refine go_ldc2 (v := (-1 : Int64)) 66 rfl d12_63 (wd hw 44 rfl) ?_
      refine go_bipush (63 : Int32) 68 rfl d12_66 rfl ?_
      refine go_iload 70 rfl d12_68 rfl ?_
      refine go_isub 71 rfl d12_70 rfl ?_
      refine go_iload 73 rfl d12_71 rfl ?_
      refine go_iadd 74 rfl d12_73 rfl ?_
      refine go_lushr 75 rfl d12_74 rfl ?_
      refine go_iload 77 rfl d12_75 rfl ?_
      refine go_lshl 78 rfl d12_77 rfl ?_
      refine go_lor 79 rfl d12_78 rfl ?_
      show Go Btk4 Z a0 h0 _ 0 0 (M4 a1 a2 a3 a4 a5 a6 a7 q70 q71 q2 q3 z101 z201 z301 z102 z202 z302 z103 z203 z303 z721 z722 z723 z724 z725 z726 z106 z206 z306 z107 z207 z307 (1 : Int32) (1 : Int32) (0 : Int32)) 79 #[.val (.ref a1), .val (.int p4), .val (.int p5), .val (.int (0 : Int32)), .val (.int (3 : Int32)), .val (.int (2 : Int32)), .val (.int (0 : Int32)), .val (.int (63 : Int32))] [(.long (q2 ||| ((((-1 : Int64).toUInt64 >>> ((0 : Int32) &&& 0x3f).toInt64.toUInt64).toInt64) <<< ((0 : Int32) &&& 0x3f).toInt64))), (.int (2 : Int32)), (.ref a2)]
      have hx2 : Fre (P1 p4.toInt (p5.toInt + 1) C) 2 (q2 ||| ((((-1 : Int64).toUInt64 >>> ((0 : Int32) &&& 0x3f).toInt64.toUInt64).toInt64) <<< ((0 : Int32) &&& 0x3f).toInt64)) := fre_take (u := (0 : Int32)) (v := (63 : Int32)) (d := (0 : Int32)) e2 (by omega) (by omega) (by first | omega | decide) (by first | omega | decide) (by first | omega | decide) (by first | omega | decide) (by first | omega | decide) (by first | omega | decide)
      generalize (q2 ||| ((((-1 : Int64).toUInt64 >>> ((0 : Int32) &&& 0x3f).toInt64.toUInt64).toInt64) <<< ((0 : Int32) &&& 0x3f).toInt64)) = q72 at hx2 ⊢
      refine go_lastore 1 80 rfl d12_79 rfl rfl (by decide) (lbe rfl) ?_
      refine go_aloadN 81 rfl d12_80 rfl rfl ?_
      refine go_iload 83 rfl d12_81 rfl ?_
      refine go_callP (host := "") 86 rfl d12_83 (Or.inl (wd hw 67 rfl)) (wd hw 68 rfl) (wd hw 69 rfl) (wd hw 9 rfl) (wd hw 10 rfl) (wd hw 70 rfl) (by decide) (Mo.exa (i := 0) rfl) (m_chg4_2_0110 Z a0 hw h0 (P1 p4.toInt (p5.toInt + 1) C) a1 a2 a3 a4 a5 a6 a7 [(.long q70), (.long q71), (.long q72), (.long q3)] [(.long (0 : Int64)), (.long (0 : Int64)), (.long (0 : Int64)), (.long (0 : Int64))] [(.int (0 : Int32)), (.int z101), (.int z102), (.int z103), (.int z721), (.int z724), (.int z106), (.int z107)] [(.int (0 : Int32)), (.int z201), (.int z202), (.int z203), (.int z722), (.int z725), (.int z206), (.int z207)] [(.int (0 : Int32)), (.int z301), (.int z302), (.int z303), (.int z723), (.int z726), (.int z306), (.int z307)] q72 rfl rfl hx2 (lbe rfl) (lbe rfl) (lbe rfl)) (argsL := [(.int (2 : Int32))]) (rest := []) rfl (ps := [.int]) (by decide +kernel) rfl rfl 0 rfl (by decide) (by decide) (by decide) (by decide) ?_
      rintro _ _ ⟨z727, z728, z729, hz727, rfl, rfl⟩
      show Go Btk4 Z a0 h0 _ 0 0 (M4 a1 a2 a3 a4 a5 a6 a7 q70 q71 q72 q3 z101 z201 z301 z102 z202 z302 z103 z203 z303 z721 z722 z723 z724 z725 z726 z727 z728 z729 z107 z207 z307 (1 : Int32) (1 : Int32) (1 : Int32)) 86 #[.val (.ref a1), .val (.int p4), .val (.int p5), .val (.int (0 : Int32)), .val (.int (3 : Int32)), .val (.int (2 : Int32)), .val (.int (0 : Int32)), .val (.int (63 : Int32))] []
      refine go_iinc #[.val (.ref a1), .val (.int p4), .val (.int p5), .val (.int (0 : Int32)), .val (.int (3 : Int32)), .val (.int (3 : Int32)), .val (.int (0 : Int32)), .val (.int (63 : Int32))] 89 rfl d12_86 rfl rfl ?_
      refine go_goto 14 (by decide) rfl d12_89 ?_
      refine go_iload 16 rfl d12_14 rfl ?_
      refine go_iload 18 rfl d12_16 rfl ?_
      refine go_icmp 92 21 rfl (by decide) rfl d12_18 rfl (fun (hc18 : (3 : Int) < (3 : Int)) => absurd hc18 (by decide)) (fun (hc18 : ¬ ((3 : Int) < (3 : Int))) => ?_)
      refine go_iload 23 rfl d12_21 rfl ?_
      refine go_iloadN 24 rfl d12_23 rfl ?_
      refine go_icmp 34 27 rfl (by decide) rfl d12_24 rfl (fun (hc24 : (3 : Int) ≠ (0 : Int)) => ?_) (fun (hc24 : ¬ ((3 : Int) ≠ (0 : Int))) => absurd hc24 (by decide))
      refine go_iconst (0 : Int32) 35 rfl d12_34 rfl ?_
      refine go_istore #[.val (.ref a1), .val (.int p4), .val (.int p5), .val (.int (0 : Int32)), .val (.int (3 : Int32)), .val (.int (3 : Int32)), .val (.int (0 : Int32)), .val (.int (63 : Int32))] 37 rfl d12_35 rfl rfl ?_
      refine go_iload 39 rfl d12_37 rfl ?_
      refine go_iload 41 rfl d12_39 rfl ?_
      refine go_icmp 51 44 rfl (by decide) rfl d12_41 rfl (fun (hc41 : (3 : Int) ≠ (3 : Int)) => absurd hc41 (by decide)) (fun (hc41 : ¬ ((3 : Int) ≠ (3 : Int))) => ?_)
      refine go_iloadN 45 rfl d12_44 rfl ?_
      refine go_bipush (64 : Int32) 47 rfl d12_45 rfl ?_
      refine go_irem 48 rfl d12_47 rfl (by decide) ?_
      generalize er2 : p5 % (64 : Int32) = p9 at rb ⊢
      refine go_goto 53 (by decide) rfl d12_48 ?_
      refine go_istore #[.val (.ref a1), .val (.int p4), .val (.int p5), .val (.int (0 : Int32)), .val (.int (3 : Int32)), .val (.int (3 : Int32)), .val (.int (0 : Int32)), .val (.int p9)] 55 rfl d12_53 rfl rfl ?_
      refine go_aloadN 56 rfl d12_55 rfl rfl ?_
      refine go_get 0 1 59 rfl d12_56 rfl rfl rfl (wd hw 30 rfl) ?_
      refine go_iload 61 rfl d12_59 rfl ?_
      refine go_dup2 62 rfl d12_61 rfl rfl rfl ?_
      refine go_laload 63 rfl d12_62 rfl (Mo.el (i := 1) rfl (by decide) rfl) ?_
      refine go_ldc2 (v := (-1 : Int64)) 66 rfl d12_63 (wd hw 44 rfl) ?_
      refine go_bipush (63 : Int32) 68 rfl d12_66 rfl ?_
      refine go_iload 70 rfl d12_68 rfl ?_
      refine go_isub 71 rfl d12_70 rfl ?_
      have fa10 : ((63 : Int32) - p9).toInt = (63 : Int) - p9.toInt := subE rfl rfl (by omega)
      refine go_iload 73 rfl d12_71 rfl ?_
      refine go_iadd 74 rfl d12_73 rfl ?_
      have fa11 : (((63 : Int32) - p9) + (0 : Int32)).toInt = ((63 : Int32) - p9).toInt + (0 : Int) := addE rfl rfl (by omega)
      refine go_lushr 75 rfl d12_74 rfl ?_
      refine go_iload 77 rfl d12_75 rfl ?_
      refine go_lshl 78 rfl d12_77 rfl ?_
      refine go_lor 79 rfl d12_78 rfl ?_
      show Go Btk4 Z a0 h0 _ 0 0 (M4 a1 a2 a3 a4 a5 a6 a7 q70 q71 q72 q3 z101 z201 z301 z102 z202 z302 z103 z203 z303 z721 z722 z723 z724 z725 z726 z727 z728 z729 z107 z207 z307 (1 : Int32) (1 : Int32) (1 : Int32)) 79 #[.val (.ref a1), .val (.int p4), .val (.int p5), .val (.int (0 : Int32)), .val (.int (3 : Int32)), .val (.int (3 : Int32)), .val (.int (0 : Int32)), .val (.int p9)] [(.long (q3 ||| ((((-1 : Int64).toUInt64 >>> ((((63 : Int32) - p9) + (0 : Int32)) &&& 0x3f).toInt64.toUInt64).toInt64) <<< ((0 : Int32) &&& 0x3f).toInt64))), (.int (3 : Int32)), (.ref a2)]
      have hx3 : Fre (P1 p4.toInt (p5.toInt + 1) C) 3 (q3 ||| ((((-1 : Int64).toUInt64 >>> ((((63 : Int32) - p9) + (0 : Int32)) &&& 0x3f).toInt64.toUInt64).toInt64) <<< ((0 : Int32) &&& 0x3f).toInt64)) := fre_take (u := (0 : Int32)) (v := p9) (d := (((63 : Int32) - p9) + (0 : Int32))) e3 (by omega) (by omega) (by first | omega | decide) (by first | omega | decide) (by first | omega | decide) (by first | omega | decide) (by first | omega | decide) (by first | omega | decide)
      generalize (q3 ||| ((((-1 : Int64).toUInt64 >>> ((((63 : Int32) - p9) + (0 : Int32)) &&& 0x3f).toInt64.toUInt64).toInt64) <<< ((0 : Int32) &&& 0x3f).toInt64)) = q73 at hx3 ⊢
      refine go_lastore 1 80 rfl d12_79 rfl rfl (by decide) (lbe rfl) ?_
      refine go_aloadN 81 rfl d12_80 rfl rfl ?_
      refine go_iload 83 rfl d12_81 rfl ?_
      refine go_callP (host := "") 86 rfl d12_83 (Or.inl (wd hw 67 rfl)) (wd hw 68 rfl) (wd hw 69 rfl) (wd hw 9 rfl) (wd hw 10 rfl) (wd hw 70 rfl) (by decide) (Mo.exa (i := 0) rfl) (m_chg4_3_0111 Z a0 hw h0 (P1 p4.toInt (p5.toInt + 1) C) a1 a2 a3 a4 a5 a6 a7 [(.long q70), (.long q71), (.long q72), (.long q73)] [(.long (0 : Int64)), (.long (0 : Int64)), (.long (0 : Int64)), (.long (0 : Int64))] [(.int (0 : Int32)), (.int z101), (.int z102), (.int z103), (.int z721), (.int z724), (.int z727), (.int z107)] [(.int (0 : Int32)), (.int z201), (.int z202), (.int z203), (.int z722), (.int z725), (.int z728), (.int z207)] [(.int (0 : Int32)), (.int z301), (.int z302), (.int z303), (.int z723), (.int z726), (.int z729), (.int z307)] q73 rfl rfl hx3 (lbe rfl) (lbe rfl) (lbe rfl)) (argsL := [(.int (3 : Int32))]) (rest := []) rfl (ps := [.int]) (by decide +kernel) rfl rfl 0 rfl (by decide) (by decide) (by decide) (by decide) ?_
      rintro _ _ ⟨z730, z731, z732, hz730, rfl, rfl⟩
      show Go Btk4 Z a0 h0 _ 0 0 (M4 a1 a2 a3 a4 a5 a6 a7 q70 q71 q72 q73 z101 z201 z301 z102 z202 z302 z103 z203 z303 z721 z722 z723 z724 z725 z726 z727 z728 z729 z730 z731 z732 (1 : Int32) (1 : Int32) (1 : Int32)) 86 #[.val (.ref a1), .val (.int p4), .val (.int p5), .val (.int (0 : Int32)), .val (.int (3 : Int32)), .val (.int (3 : Int32)), .val (.int (0 : Int32)), .val (.int p9)] []
      refine go_iinc #[.val (.ref a1), .val (.int p4), .val (.int p5), .val (.int (0 : Int32)), .val (.int (3 : Int32)), .val (.int (4 : Int32)), .val (.int (0 : Int32)), .val (.int p9)] 89 rfl d12_86 rfl rfl ?_
      refine go_goto 14 (by decide) rfl d12_89 ?_
      refine go_iload 16 rfl d12_14 rfl ?_
      refine go_iload 18 rfl d12_16 rfl ?_
      refine go_icmp 92 21 rfl (by decide) rfl d12_18 rfl (fun (hc18 : (3 : Int) < (4 : Int)) => ?_) (fun (hc18 : ¬ ((3 : Int) < (4 : Int))) => absurd hc18 (by decide))
      exact go_return d12_92 rfl rfl (by decide) (by decide) ⟨_, _, _, _, _, _, _, _, _, _, _, _, _, _, _, _, _, _, _, Inv4.mk (hx0) (hx1) (hx2) (hx3) (hz721) (hz724) (hz727) (hz730) (fun h => absurd h (by decide)) (fun h => absurd h (by decide)) (fun h => absurd h (by decide)), rfl, rfl⟩
  · rw [ha]
    have gha := congrArg Int32.toInt ha; have lha : (1 : Int32).toInt = 1 := rfl
    refine go_istoreN #[.val (.ref a1), .val (.int p4), .val (.int p5), .val (.int (1 : Int32)), .unset, .unset, .unset, .unset] 5 rfl d12_4 rfl rfl ?_
    refine go_iloadN 6 rfl d12_5 rfl ?_
    refine go_bipush (64 : Int32) 8 rfl d12_6 rfl ?_
    refine go_idiv 9 rfl d12_8 rfl (by decide) ?_
    have hb : (p5 / (64 : Int32)) = (1 : Int32) ∨ (p5 / (64 : Int32)) = (2 : Int32) ∨ (p5 / (64 : Int32)) = (3 : Int32) := by
      have : (p5 / (64 : Int32)).toInt = 1 ∨ (p5 / (64 : Int32)).toInt = 2 ∨ (p5 / (64 : Int32)).toInt = 3 := by omega
      rcases this with q | q | q
      · exact Or.inl (i32_of q rfl)
      · exact Or.inr (Or.inl (i32_of q rfl))
      · exact Or.inr (Or.inr (i32_of q rfl))
    rcases hb with hb | hb | hb
    · rw [hb]
      have ghb := congrArg Int32.toInt hb; have lhb : (1 : Int32).toInt = 1 := rfl
      refine go_istore #[.val (.ref a1), .val (.int p4), .val (.int p5), .val (.int (1 : Int32)), .val (.int (1 : Int32)), .unset, .unset, .unset] 11 rfl d12_9 rfl rfl ?_
      refine go_iloadN 12 rfl d12_11 rfl ?_
      refine go_istore #[.val (.ref a1), .val (.int p4), .val (.int p5), .val (.int (1 : Int32)), .val (.int (1 : Int32)), .val (.int (1 : Int32)), .unset, .unset] 14 rfl d12_12 rfl rfl ?_
      refine go_iload 16 rfl d12_14 rfl ?_
      refine go_iload 18 rfl d12_16 rfl ?_
      refine go_icmp 92 21 rfl (by decide) rfl d12_18 rfl (fun (hc18 : (1 : Int) < (1 : Int)) => absurd hc18 (by decide)) (fun (hc18 : ¬ ((1 : Int) < (1 : Int))) => ?_)
      refine go_iload 23 rfl d12_21 rfl ?_
      refine go_iloadN 24 rfl d12_23 rfl ?_
      refine go_icmp 34 27 rfl (by decide) rfl d12_24 rfl (fun (hc24 : (1 : Int) ≠ (1 : Int)) => absurd hc24 (by decide)) (fun (hc24 : ¬ ((1 : Int) ≠ (1 : Int))) => ?_)
      refine go_iloadN 28 rfl d12_27 rfl ?_
      refine go_bipush (64 : Int32) 30 rfl d12_28 rfl ?_
      refine go_irem 31 rfl d12_30 rfl (by decide) ?_
      generalize er : p4 % (64 : Int32) = p8 at ra ⊢
      refine go_goto 35 (by decide) rfl d12_31 ?_
      refine go_istore #[.val (.ref a1), .val (.int p4), .val (.int p5), .val (.int (1 : Int32)), .val (.int (1 : Int32)), .val (.int (1 : Int32)), .val (.int p8), .unset] 37 rfl d12_35 rfl rfl ?_
      refine go_iload 39 rfl d12_37 rfl ?_
      refine go_iload 41 rfl d12_39 rfl ?_
      refine go_icmp 51 44 rfl (by decide) rfl d12_41 rfl (fun (hc41 : (1 : Int) ≠ (1 : Int)) => absurd hc41 (by decide)) (fun (hc41 : ¬ ((1 : Int) ≠ (1 : Int))) => ?_)
      refine go_iloadN 45 rfl d12_44 rfl ?_
      refine go_bipush (64 : Int32) 47 rfl d12_45 rfl ?_
      refine go_irem 48 rfl d12_47 rfl (by decide) ?_
      generalize er2 : p5 % (64 : Int32) = p9 at rb ⊢
      refine go_goto 53 (by decide) rfl d12_48 ?_
      refine go_istore #[.val (.ref a1), .val (.int p4), .val (.int p5), .val (.int (1 : Int32)), .val (.int (1 : Int32)), .val (.int (1 : Int32)), .val (.int p8), .val (.int p9)] 55 rfl d12_53 rfl rfl ?_
      refine go_aloadN 56 rfl d12_55 rfl rfl ?_
      refine go_get 0 1 59 rfl d12_56 rfl rfl rfl (wd hw 30 rfl) ?_
      refine go_iload 61 rfl d12_59 rfl ?_
      refine go_dup2 62 rfl d12_61 rfl rfl rfl ?_
      refine go_laload 63 rfl d12_62 rfl (Mo.el (i := 1) rfl (by decide) rfl) ?_
      refine go_ldc2 (v := (-1 : Int64)) 66 rfl d12_63 (wd hw 44 rfl) ?_
      refine go_bipush (63 : Int32) 68 rfl d12_66 rfl ?_
      refine go_iload 70 rfl d12_68 rfl ?_
      refine go_isub 71 rfl d12_70 rfl ?_
      have fa12 : ((63 : Int32) - p9).toInt = (63 : Int) - p9.toInt := subE rfl rfl (by omega)
      refine go_iload 73 rfl d12_71 rfl ?_
      refine go_iadd 74 rfl d12_73 rfl ?_
      have fa13 : (((63 : Int32) - p9) + p8).toInt = ((63 : Int32) - p9).toInt + p8.toInt := addE rfl rfl (by omega)
      refine go_lushr 75 rfl d12_74 rfl ?_
      refine go_iload 77 rfl d12_75 rfl ?_
      refine go_lshl 78 rfl d12_77 rfl ?_
      refine go_lor 79 rfl d12_78 rfl ?_
      show Go Btk4 Z a0 h0 _ 0 0 (M4 a1 a2 a3 a4 a5 a6 a7 q0 q1 q2 q3 z101 z201 z301 z102 z202 z302 z103 z203 z303 z104 z204 z304 z105 z205 z305 z106 z206 z306 z107 z207 z307 (0 : Int32) (0 : Int32) (0 : Int32)) 79 #[.val (.ref a1), .val (.int p4), .val (.int p5), .val (.int (1 : Int32)), .val (.int (1 : Int32)), .val (.int (1 : Int32)), .val (.int p8), .val (.int p9)] [(.long (q1 ||| ((((-1 : Int64).toUInt64 >>> ((((63 : Int32) - p9) + p8) &&& 0x3f).toInt64.toUInt64).toInt64) <<< (p8 &&& 0x3f).toInt64))), (.int (1 : Int32)), (.ref a2)]
      have hx1 : Fre (P1 p4.toInt (p5.toInt + 1) C) 1 (q1 ||| ((((-1 : Int64).toUInt64 >>> ((((63 : Int32) - p9) + p8) &&& 0x3f).toInt64.toUInt64).toInt64) <<< (p8 &&& 0x3f).toInt64)) := fre_take (u := p8) (v := p9) (d := (((63 : Int32) - p9) + p8)) e1 (by omega) (by omega) (by first | omega | decide) (by first | omega | decide) (by first | omega | decide) (by first | omega | decide) (by first | omega | decide) (by first | omega | decide)
      generalize (q1 ||| ((((-1 : Int64).toUInt64 >>> ((((63 : Int32) - p9) + p8) &&& 0x3f).toInt64.toUInt64).toInt64) <<< (p8 &&& 0x3f).toInt64)) = q71 at hx1 ⊢
      refine go_lastore 1 80 rfl d12_79 rfl rfl (by decide) (lbe rfl) ?_
      refine go_aloadN 81 rfl d12_80 rfl rfl ?_
      refine go_iload 83 rfl d12_81 rfl ?_
      refine go_callP (host := "") 86 rfl d12_83 (Or.inl (wd hw 67 rfl)) (wd hw 68 rfl) (wd hw 69 rfl) (wd hw 9 rfl) (wd hw 10 rfl) (wd hw 70 rfl) (by decide) (Mo.exa (i := 0) rfl) (m_chg4_1_0000 Z a0 hw h0 (P1 p4.toInt (p5.toInt + 1) C) a1 a2 a3 a4 a5 a6 a7 [(.long q0), (.long q71), (.long q2), (.long q3)] [(.long (0 : Int64)), (.long (0 : Int64)), (.long (0 : Int64)), (.long (0 : Int64))] [(.int (0 : Int32)), (.int z101), (.int z102), (.int z103), (.int z104), (.int z105), (.int z106), (.int z107)] [(.int (0 : Int32)), (.int z201), (.int z202), (.int z203), (.int z204), (.int z205), (.int z206), (.int z207)] [(.int (0 : Int32)), (.int z301), (.int z302), (.int z303), (.int z304), (.int z305), (.int z306), (.int z307)] q71 rfl rfl hx1 (lbe rfl) (lbe rfl) (lbe rfl)) (argsL := [(.int (1 : Int32))]) (rest := []) rfl (ps := [.int]) (by decide +kernel) rfl rfl 0 rfl (by decide) (by decide) (by decide) (by decide) ?_
      rintro _ _ ⟨z733, z734, z735, hz733, rfl, rfl⟩
      show Go Btk4 Z a0 h0 _ 0 0 (M4 a1 a2 a3 a4 a5 a6 a7 q0 q71 q2 q3 z101 z201 z301 z102 z202 z302 z103 z203 z303 z104 z204 z304 z733 z734 z735 z106 z206 z306 z107 z207 z307 (1 : Int32) (1 : Int32) (0 : Int32)) 86 #[.val (.ref a1), .val (.int p4), .val (.int p5), .val (.int (1 : Int32)), .val (.int (1 : Int32)), .val (.int (1 : Int32)), .val (.int p8), .val (.int p9)] []
      refine go_iinc #[.val (.ref a1), .val (.int p4), .val (.int p5), .val (.int (1 : Int32)), .val (.int (1 : Int32)), .val (.int (2 : Int32)), .val (.int p8), .val (.int p9)] 89 rfl d12_86 rfl rfl ?_
      refine go_goto 14 (by decide) rfl d12_89 ?_
      refine go_iload 16 rfl d12_14 rfl ?_
      refine go_iload 18 rfl d12_16 rfl ?_
      refine go_icmp 92 21 rfl (by decide) rfl d12_18 rfl (fun (hc18 : (1 : Int) < (2 : Int)) => ?_) (fun (hc18 : ¬ ((1 : Int) < (2 : Int))) => absurd hc18 (by decide))
      exact go_return d12_92 rfl rfl (by decide) (by decide) ⟨_, _, _, _, _, _, _, _, _, _, _, _, _, _, _, _, _, _, _, Inv4.mk (fre_out e0 (by omega) (by omega) (by omega)) (hx1) (fre_out e2 (by omega) (by omega) (by omega)) (fre_out e3 (by omega) (by omega) (by omega)) (sm_out s4 (by omega) (by omega) (by omega)) (hz733) (sm_out s6 (by omega) (by omega) (by omega)) (sm_out s7 (by omega) (by omega) (by omega)) (fun h => absurd h (by decide)) (fun h => absurd h (by decide)) (fun _ => sm_out s3 (by omega) (by omega) (by omega)), rfl, rfl⟩
    · rw [hb]
      have ghb := congrArg Int32.toInt hb; have lhb : (2 : Int32).toInt = 2 := rfl
      refine go_istore #[.val (.ref a1), .val (.int p4), .val (.int p5), .val (.int (1 : Int32)), .val (.int (2 : Int32)), .unset, .unset, .unset] 11 rfl d12_9 rfl rfl ?_
      refine go_iloadN 12 rfl d12_11 rfl ?_
      refine go_istore #[.val (.ref a1), .val (.int p4), .val (.int p5), .val (.int (1 : Int32)), .val (.int (2 : Int32)), .val (.int (1 : Int32)), .unset, .unset] 14 rfl d12_12 rfl rfl ?_
      refine go_iload 16 rfl d12_14 rfl ?_
      refine go_iload 18 rfl d12_16 rfl ?_
      refine go_icmp 92 21 rfl (by decide) rfl d12_18 rfl (fun (hc18 : (2 : Int) < (1 : Int)) => absurd hc18 (by decide)) (fun (hc18 : ¬ ((2 : Int) < (1 : Int))) => ?_)
      refine go_iload 23 rfl d12_21 rfl ?_
      refine go_iloadN 24 rfl d12_23 rfl ?_
      refine go_icmp 34 27 rfl (by decide) rfl d12_24 rfl (fun (hc24 : (1 : Int) ≠ (1 : Int)) => absurd hc24 (by decide)) (fun (hc24 : ¬ ((1 : Int) ≠ (1 : Int))) => ?_)
      refine go_iloadN 28 rfl d12_27 rfl ?_
      refine go_bipush (64 : Int32) 30 rfl d12_28 rfl ?_
      refine go_irem 31 rfl d12_30 rfl (by decide) ?_
      generalize er : p4 % (64 : Int32) = p8 at ra ⊢
      refine go_goto 35 (by decide) rfl d12_31 ?_
      refine go_istore #[.val (.ref a1), .val (.int p4), .val (.int p5), .val (.int (1 : Int32)), .val (.int (2 : Int32)), .val (.int (1 : Int32)), .val (.int p8), .unset] 37 rfl d12_35 rfl rfl ?_
      refine go_iload 39 rfl d12_37 rfl ?_
      refine go_iload 41 rfl d12_39 rfl ?_
      refine go_icmp 51 44 rfl (by decide) rfl d12_41 rfl (fun (hc41 : (1 : Int) ≠ (2 : Int)) => ?_) (fun (hc41 : ¬ ((1 : Int) ≠ (2 : Int))) => absurd hc41 (by decide))
      refine go_bipush (63 : Int32) 53 rfl d12_51 rfl ?_
      refine go_istore #[.val (.ref a1), .val (.int p4), .val (.int p5), .val (.int (1 : Int32)), .val (.int (2 : Int32)), .val (.int (1 : Int32)), .val (.int p8), .val (.int (63 : Int32))] 55 rfl d12_53 rfl rfl ?_
      refine go_aloadN 56 rfl d12_55 rfl rfl ?_
      refine go_get 0 1 59 rfl d12_56 rfl rfl rfl (wd hw 30 rfl) ?_
      refine go_iload 61 rfl d12_59 rfl ?_
      refine go_dup2 62 rfl d12_61 rfl rfl rfl ?_
      refine go_laload 63 rfl d12_62 rfl (Mo.el (i := 1) rfl (by decide) rfl) ?_
      refine go_ldc2 (v := (-1 : Int64)) 66 rfl d12_63 (wd hw 44 rfl) ?_
      refine go_bipush (63 : Int32) 68 rfl d12_66 rfl ?_
      refine go_iload 70 rfl d12_68 rfl ?_
      refine go_isub 71 rfl d12_70 rfl ?_
      refine go_iload 73 rfl d12_71 rfl ?_
      refine go_iadd 74 rfl d12_73 rfl ?_
      have fa14 : ((0 : Int32) + p8).toInt = (0 : Int) + p8.toInt := addE rfl rfl (by omega)
      refine go_lushr 75 rfl d12_74 rfl ?_
      refine go_iload 77 rfl d12_75 rfl ?_
      refine go_lshl 78 rfl d12_77 rfl ?_
      refine go_lor 79 rfl d12_78 rfl ?_
      show Go Btk4 Z a0 h0 _ 0 0 (M4 a1 a2 a3 a4 a5 a6 a7 q0 q1 q2 q3 z101 z201 z301 z102 z202 z302 z103 z203 z303 z104 z204 z304 z105 z205 z305 z106 z206 z306 z107 z207 z307 (0 : Int32) (0 : Int32) (0 : Int32)) 79 #[.val (.ref a1), .val (.int p4), .val (.int p5), .val (.int (1 : Int32)), .val (.int (2 : Int32)), .val (.int (1 : Int32)), .val (.int p8), .val (.int (63 : Int32))] [(.long (q1 ||| ((((-1 : Int64).toUInt64 >>> (((0 : Int32) + p8) &&& 0x3f).toInt64.toUInt64).toInt64) <<< (p8 &&& 0x3f).toInt64))), (.int (1 : Int32)), (.ref a2)]
      have hx1 : Fre (P1 p4.toInt (p5.toInt + 1) C) 1 (q1 ||| ((((-1 : Int64).toUInt64 >>> (((0 : Int32) + p8) &&& 0x3f).toInt64.toUInt64).toInt64) <<< (p8 &&& 0x3f).toInt64)) := fre_take (u := p8) (v := (63 : Int32)) (d := ((0 : Int32) + p8)) e1 (by omega) (by omega) (by first | omega | decide) (by first | omega | decide) (by first | omega | decide) (by first | omega | decide) (by first | omega | decide) (by first | omega | decide)
      generalize (q1 ||| ((((-1 : Int64).toUInt64 >>> (((0 : Int32) + p8) &&& 0x3f).toInt64.toUInt64).toInt64) <<< (p8 &&& 0x3f).toInt64)) = q71 at hx1 ⊢
      refine go_lastore 1 80 rfl d12_79 rfl rfl (by decide) (lbe rfl) ?_
      refine go_aloadN 81 rfl d12_80 rfl rfl ?_
      refine go_iload 83 rfl d12_81 rfl ?_
      refine go_callP (host := "") 86 rfl d12_83 (Or.inl (wd hw 67 rfl)) (wd hw 68 rfl) (wd hw 69 rfl) (wd hw 9 rfl) (wd hw 10 rfl) (wd hw 70 rfl) (by decide) (Mo.exa (i := 0) rfl) (m_chg4_1_0000 Z a0 hw h0 (P1 p4.toInt (p5.toInt + 1) C) a1 a2 a3 a4 a5 a6 a7 [(.long q0), (.long q71), (.long q2), (.long q3)] [(.long (0 : Int64)), (.long (0 : Int64)), (.long (0 : Int64)), (.long (0 : Int64))] [(.int (0 : Int32)), (.int z101), (.int z102), (.int z103), (.int z104), (.int z105), (.int z106), (.int z107)] [(.int (0 : Int32)), (.int z201), (.int z202), (.int z203), (.int z204), (.int z205), (.int z206), (.int z207)] [(.int (0 : Int32)), (.int z301), (.int z302), (.int z303), (.int z304), (.int z305), (.int z306), (.int z307)] q71 rfl rfl hx1 (lbe rfl) (lbe rfl) (lbe rfl)) (argsL := [(.int (1 : Int32))]) (rest := []) rfl (ps := [.int]) (by decide +kernel) rfl rfl 0 rfl (by decide) (by decide) (by decide) (by decide) ?_
      rintro _ _ ⟨z736, z737, z738, hz736, rfl, rfl⟩
      show Go Btk4 Z a0 h0 _ 0 0 (M4 a1 a2 a3 a4 a5 a6 a7 q0 q71 q2 q3 z101 z201 z301 z102 z202 z302 z103 z203 z303 z104 z204 z304 z736 z737 z738 z106 z206 z306 z107 z207 z307 (1 : Int32) (1 : Int32) (0 : Int32)) 86 #[.val (.ref a1), .val (.int p4), .val (.int p5), .val (.int (1 : Int32)), .val (.int (2 : Int32)), .val (.int (1 : Int32)), .val (.int p8), .val (.int (63 : Int32))] []
      refine go_iinc #[.val (.ref a1), .val (.int p4), .val (.int p5), .val (.int (1 : Int32)), .val (.int (2 : Int32)), .val (.int (2 : Int32)), .val (.int p8), .val (.int (63 : Int32))] 89 rfl d12_86 rfl rfl ?_
      refine go_goto 14 (by decide) rfl d12_89 ?_
      refine go_iload 16 rfl d12_14 rfl ?_
      refine go_iload 18 rfl d12_16 rfl ?_
      refine go_icmp 92 21 rfl (by decide) rfl d12_18 rfl (fun (hc18 : (2 : Int) < (2 : Int)) => absurd hc18 (by decide)) (fun (hc18 : ¬ ((2 : Int) < (2 : Int))) => ?_)
      refine go_iload 23 rfl d12_21 rfl ?_
      refine go_iloadN 24 rfl d12_23 rfl ?_
      refine go_icmp 34 27 rfl (by decide) rfl d12_24 rfl (fun (hc24 : (2 : Int) ≠ (1 : Int)) => ?_) (fun (hc24 : ¬ ((2 : Int) ≠ (1 : Int))) => absurd hc24 (by decide))
      refine go_iconst (0 : Int32) 35 rfl d12_34 rfl ?_
      refine go_istore #[.val (.ref a1), .val (.int p4), .val (.int p5), .val (.int (1 : Int32)), .val (.int (2 : Int32)), .val (.int (2 : Int32)), .val (.int (0 : Int32)), .val (.int (63 : Int32))] 37 rfl d12_35 rfl rfl ?_
      refine go_iload 39 rfl d12_37 rfl ?_
      refine go_iload 41 rfl d12_39 rfl ?_
      refine go_icmp 51 44 rfl (by decide) rfl d12_41 rfl (fun (hc41 : (2 : Int) ≠ (2 : Int)) => absurd hc41 (by decide)) (fun (hc41 : ¬ ((2 : Int) ≠ (2 : Int))) => ?_)
      refine go_iloadN 45 rfl d12_44 rfl ?_
      refine go_bipush (64 : Int32) 47 rfl d12_45 rfl ?_
      refine go_irem 48 rfl d12_47 rfl (by decide) ?_
      generalize er2 : p5 % (64 : Int32) = p9 at rb ⊢
      refine go_goto 53 (by decide) rfl d12_48 ?_
      refine go_istore #[.val (.ref a1), .val (.int p4), .val (.int p5), .val (.int (1 : Int32)), .val (.int (2 : Int32)), .val (.int (2 : Int32)), .val (.int (0 : Int32)), .val (.int p9)] 55 rfl d12_53 rfl rfl ?_
      refine go_aloadN 56 rfl d12_55 rfl rfl ?_
      refine go_get 0 1 59 rfl d12_56 rfl rfl rfl (wd hw 30 rfl) ?_
      refine go_iload 61 rfl d12_59 rfl ?_
      refine go_dup2 62 rfl d12_61 rfl rfl rfl ?_
      refine go_laload 63 rfl d12_62 rfl (Mo.el (i := 1) rfl (by decide) rfl) ?_
      refine go_ldc2 (v := (-1 : Int64)) 66 rfl d12_63 (wd hw 44 rfl) ?_
      refine go_bipush (63 : Int32) 68 rfl d12_66 rfl ?_
      refine go_iload 70 rfl d12_68 rfl ?_
      refine go_isub 71 rfl d12_70 rfl ?_
      have fa15 : ((63 : Int32) - p9).toInt = (63 : Int) - p9.toInt := subE rfl rfl (by omega)
      refine go_iload 73 rfl d12_71 rfl ?_
      refine go_iadd 74 rfl d12_73 rfl ?_
      have fa16 : (((63 : Int32) - p9) + (0 : Int32)).toInt = ((63 : Int32) - p9).toInt + (0 : Int) := addE rfl rfl (by omega)
      refine go_lushr 75 rfl d12_74 rfl ?_
      refine go_iload 77 rfl d12_75 rfl ?_
      refine go_lshl 78 rfl d12_77 rfl ?_
      refine go_lor 79 rfl d12_78 rfl ?_
      show Go Btk4 Z a0 h0 _ 0 0 (M4 a1 a2 a3 a4 a5 a6 a7 q0 q71 q2 q3 z101 z201 z301 z102 z202 z302 z103 z203 z303 z104 z204 z304 z736 z737 z738 z106 z206 z306 z107 z207 z307 (1 : Int32) (1 : Int32) (0 : Int32)) 79 #[.val (.ref a1), .val (.int p4), .val (.int p5), .val (.int (1 : Int32)), .val (.int (2 : Int32)), .val (.int (2 : Int32)), .val (.int (0 : Int32)), .val (.int p9)] [(.long (q2 ||| ((((-1 : Int64).toUInt64 >>> ((((63 : Int32) - p9) + (0 : Int32)) &&& 0x3f).toInt64.toUInt64).toInt64) <<< ((0 : Int32) &&& 0x3f).toInt64))), (.int (2 : Int32)), (.ref a2)]
      have hx2 : Fre (P1 p4.toInt (p5.toInt + 1) C) 2 (q2 ||| ((((-1 : Int64).toUInt64 >>> ((((63 : Int32) - p9) + (0 : Int32)) &&& 0x3f).toInt64.toUInt64).toInt64) <<< ((0 : Int32) &&& 0x3f).toInt64)) := fre_take (u := (0 : Int32)) (v := p9) (d := (((63 : Int32) - p9) + (0 : Int32))) e2 (by omega) (by omega) (by first | omega | decide) (by first | omega | decide) (by first | omega | decide) (by first | omega | decide) (by first | omega | decide) (by first | omega | decide)
      generalize (q2 ||| ((((-1 : Int64).toUInt64 >>> ((((63 : Int32) - p9) + (0 : Int32)) &&& 0x3f).toInt64.toUInt64).toInt64) <<< ((0 : Int32) &&& 0x3f).toInt64)) = q72 at hx2 ⊢
      refine go_lastore 1 80 rfl d12_79 rfl rfl (by decide) (lbe rfl) ?_
      refine go_aloadN 81 rfl d12_80 rfl rfl ?_
      refine go_iload 83 rfl d12_81 rfl ?_
      refine go_callP (host := "") 86 rfl d12_83 (Or.inl (wd hw 67 rfl)) (wd hw 68 rfl) (wd hw 69 rfl) (wd hw 9 rfl) (wd hw 10 rfl) (wd hw 70 rfl) (by decide) (Mo.exa (i := 0) rfl) (m_chg4_2_0110 Z a0 hw h0 (P1 p4.toInt (p5.toInt + 1) C) a1 a2 a3 a4 a5 a6 a7 [(.long q0), (.long q71), (.long q72), (.long q3)] [(.long (0 : Int64)), (.long (0 : Int64)), (.long (0 : Int64)), (.long (0 : Int64))] [(.int (0 : Int32)), (.int z101), (.int z102), (.int z103), (.int z104), (.int z736), (.int z106), (.int z107)] [(.int (0 : Int32)), (.int z201), (.int z202), (.int z203), (.int z204), (.int z737), (.int z206), (.int z207)] [(.int (0 : Int32)), (.int z301), (.int z302), (.int z303), (.int z304), (.int z738), (.int z306), (.int z307)] q72 rfl rfl hx2 (lbe rfl) (lbe rfl) (lbe rfl)) (argsL := [(.int (2 : Int32))]) (rest := []) rfl (ps := [.int]) (by decide +kernel) rfl rfl 0 rfl (by decide) (by decide) (by decide) (by decide) ?_
      rintro _ _ ⟨z739, z740, z741, hz739, rfl, rfl⟩
      show Go Btk4 Z a0 h0 _ 0 0 (M4 a1 a2 a3 a4 a5 a6 a7 q0 q71 q72 q3 z101 z201 z301 z102 z202 z302 z103 z203 z303 z104 z204 z304 z736 z737 z738 z739 z740 z741 z107 z207 z307 (1 : Int32) (1 : Int32) (1 : Int32)) 86 #[.val (.ref a1), .val (.int p4), .val (.int p5), .val (.int (1 : Int32)), .val (.int (2 : Int32)), .val (.int (2 : Int32)), .val (.int (0 : Int32)), .val (.int p9)] []
      refine go_iinc #[.val (.ref a1), .val (.int p4), .val (.int p5), .val (.int (1 : Int32)), .val (.int (2 : Int32)), .val (.int (3 : Int32)), .val (.int (0 : Int32)), .val (.int p9)] 89 rfl d12_86 rfl rfl ?_
      refine go_goto 14 (by decide) rfl d12_89 ?_
      refine go_iload 16 rfl d12_14 rfl ?_
      refine go_iload 18 rfl d12_16 rfl ?_
      refine go_icmp 92 21 rfl (by decide) rfl d12_18 rfl (fun (hc18 : (2 : Int) < (3 : Int)) => ?_) (fun (hc18 : ¬ ((2 : Int) < (3 : Int))) => absurd hc18 (by decide))
      exact go_return d12_92 rfl rfl (by decide) (by decide) ⟨_, _, _, _, _, _, _, _, _, _, _, _, _, _, _, _, _, _, _, Inv4.mk (fre_out e0 (by omega) (by omega) (by omega)) (hx1) (hx2) (fre_out e3 (by omega) (by omega) (by omega)) (sm_out s4 (by omega) (by omega) (by omega)) (hz736) (hz739) (sm_out s7 (by omega) (by omega) (by omega)) (fun h => absurd h (by decide)) (fun h => absurd h (by decide)) (fun h => absurd h (by decide)), rfl, rfl⟩
    · rw [hb]
      have ghb := congrArg Int32.toInt hb; have lhb : (3 : Int32).toInt = 3 := rfl
      refine go_istore #[.val (.ref a1), .val (.int p4), .val (.int p5), .val (.int (1 : Int32)), .val (.int (3 : Int32)), .unset, .unset, .unset] 11 rfl d12_9 rfl rfl ?_
      refine go_iloadN 12 rfl d12_11 rfl ?_
      refine go_istore #[.val (.ref a1), .val (.int p4), .val (.int p5), .val (.int (1 : Int32)), .val (.int (3 : Int32)), .val (.int (1 : Int32)), .unset, .unset] 14 rfl d12_12 rfl rfl ?_
      refine go_iload 16 rfl d12_14 rfl ?_
      refine go_iload 18 rfl d12_16 rfl ?_
      refine go_icmp 92 21 rfl (by decide) rfl d12_18 rfl (fun (hc18 : (3 : Int) < (1 : Int)) => absurd hc18 (by decide)) (fun (hc18 : ¬ ((3 : Int) < (1 : Int))) => ?_)
      refine go_iload 23 rfl d12_21 rfl ?_
      refine go_iloadN 24 rfl d12_23 rfl ?_
      refine go_icmp 34 27 rfl (by decide) rfl d12_24 rfl (fun (hc24 : (1 : Int) ≠ (1 : Int)) => absurd hc24 (by decide)) (fun (hc24 : ¬ ((1 : Int) ≠ (1 : Int))) => ?_)
      refine go_iloadN 28 rfl d12_27 rfl ?_
      refine go_bipush (64 : Int32) 30 rfl d12_28 rfl ?_
      refine go_irem 31 rfl d12_30 rfl (by decide) ?_
      generalize er : p4 % (64 : Int32) = p8 at ra ⊢
      refine go_goto 35 (by decide) rfl d12_31 ?_
      refine go_istore #[.val (.ref a1), .val (.int p4), .val (.int p5), .val (.int (1 : Int32)), .val (.int (3 : Int32)), .val (.int (1 : Int32)), .val (.int p8), .unset] 37 rfl d12_35 rfl rfl ?_
      refine go_iload 39 rfl d12_37 rfl ?_
      refine go_iload 41 rfl d12_39 rfl ?_
      refine go_icmp 51 44 rfl (by decide) rfl d12_41 rfl (fun (hc41 : (1 : Int) ≠ (3 : Int)) => ?_) (fun (hc41 : ¬ ((1 : Int) ≠ (3 : Int))) => absurd hc41 (by decide))
      refine go_bipush (63 : Int32) 53 rfl d12_51 rfl ?_
      refine go_istore #[.val (.ref a1), .val (.int p4), .val (.int p5), .val (.int (1 : Int32)), .val (.int (3 : Int32)), .val (.int (1 : Int32)), .val (.int p8), .val (.int (63 : Int32))] 55 rfl d12_53 rfl rfl ?_
      refine go_aloadN 56 rfl d12_55 rfl rfl ?_
      refine go_get 0 1 59 rfl d12_56 rfl rfl rfl (wd hw 30 rfl) ?_
      refine go_iload 61 rfl d12_59 rfl ?_
      refine go_dup2 62 rfl d12_61 rfl rfl rfl ?_
      refine go_laload 63 rfl d12_62 rfl (Mo.el (i := 1) rfl (by decide) rfl) ?_
      refine go_ldc2 (v := (-1 : Int64)) 66 rfl d12_63 (wd hw 44 rfl) ?_
      refine go_bipush (63 : Int32) 68 rfl d12_66 rfl ?_
      refine go_iload 70 rfl d12_68 rfl ?_
      refine go_isub 71 rfl d12_70 rfl ?_
      refine go_iload 73 rfl d12_71 rfl ?_
      refine go_iadd 74 rfl d12_73 rfl ?_
      have fa17 : ((0 : Int32) + p8).toInt = (0 : Int) + p8.toInt := addE rfl rfl (by omega)
      refine go_lushr 75 rfl d12_74 rfl ?_
      refine go_iload 77 rfl d12_75 rfl ?_
      refine go_lshl 78 rfl d12_77 rfl ?_
      refine go_lor 79 rfl d12_78 rfl ?_
      show Go Btk4 Z a0 h0 _ 0 0 (M4 a1 a2 a3 a4 a5 a6 a7 q0 q1 q2 q3 z101 z201 z301 z102 z202 z302 z103 z203 z303 z104 z204 z304 z105 z205 z305 z106 z206 z306 z107 z207 z307 (0 : Int32) (0 : Int32) (0 : Int32)) 79 #[.val (.ref a1), .val (.int p4), .val (.int p5), .val (.int (1 : Int32)), .val (.int (3 : Int32)), .val (.int (1 : Int32)), .val (.int p8), .val (.int (63 : Int32))] [(.long (q1 ||| ((((-1 : Int64).toUInt64 >>> (((0 : Int32) + p8) &&& 0x3f).toInt64.toUInt64).toInt64) <<< (p8 &&& 0x3f).toInt64))), (.int (1 : Int32)), (.ref a2)]
      have hx1 : Fre (P1 p4.toInt (p5.toInt + 1) C) 1 (q1 ||| ((((-1 : Int64).toUInt64 >>> (((0 : Int32) + p8) &&& 0x3f).toInt64.toUInt64).toInt64) <<< (p8 &&& 0x3f).toInt64)) := fre_take (u := p8) (v := (63 : Int32)) (d := ((0 : Int32) + p8)) e1 (by omega) (by omega) (by first | omega | decide) (by first | omega | decide) (by first | omega | decide) (by first | omega | decide) (by first | omega | decide) (by first | omega | decide)
      generalize (q1 ||| ((((-1 : Int64).toUInt64 >>> (((0 : Int32) + p8) &&& 0x3f).toInt64.toUInt64).toInt64) <<< (p8 &&& 0x3f).toInt64)) = q71 at hx1 ⊢
      refine go_lastore 1 80 rfl d12_79 rfl rfl (by decide) (lbe rfl) ?_
      refine go_aloadN 81 rfl d12_80 rfl rfl ?_
      refine go_iload 83 rfl d12_81 rfl ?_
      refine go_callP (host := "") 86 rfl d12_83 (Or.inl (wd hw 67 rfl)) (wd hw 68 rfl) (wd hw 69 rfl) (wd hw 9 rfl) (wd hw 10 rfl) (wd hw 70 rfl) (by decide) (Mo.exa (i := 0) rfl) (m_chg4_1_0000 Z a0 hw h0 (P1 p4.toInt (p5.toInt + 1) C) a1 a2 a3 a4 a5 a6 a7 [(.long q0), (.long q71), (.long q2), (.long q3)] [(.long (0 : Int64)), (.long (0 : Int64)), (.long (0 : Int64)), (.long (0 : Int64))] [(.int (0 : Int32)), (.int z101), (.int z102), (.int z103), (.int z104), (.int z105), (.int z106), (.int z107)] [(.int (0 : Int32)), (.int z201), (.int z202), (.int z203), (.int z204), (.int z205), (.int z206), (.int z207)] [(.int (0 : Int32)), (.int z301), (.int z302), (.int z303), (.int z304), (.int z305), (.int z306), (.int z307)] q71 rfl rfl hx1 (lbe rfl) (lbe rfl) (lbe rfl)) (argsL := [(.int (1 : Int32))]) (rest := []) rfl (ps := [.int]) (by decide +kernel) rfl rfl 0 rfl (by decide) (by decide) (by decide) (by decide) ?_
      rintro _ _ ⟨z742, z743, z744, hz742, rfl, rfl⟩
      show Go Btk4 Z a0 h0 _ 0 0 (M4 a1 a2 a3 a4 a5 a6 a7 q0 q71 q2 q3 z101 z201 z301 z102 z202 z302 z103 z203 z303 z104 z204 z304 z742 z743 z744 z106 z206 z306 z107 z207 z307 (1 : Int32) (1 : Int32) (0 : Int32)) 86 #[.val (.ref a1), .val (.int p4), .val (.int p5), .val (.int (1 : Int32)), .val (.int (3 : Int32)), .val (.int (1 : Int32)), .val (.int p8), .val (.int (63 : Int32))] []
      refine go_iinc #[.val (.ref a1), .val (.int p4), .val (.int p5), .val (.int (1 : Int32)), .val (.int (3 : Int32)), .val (.int (2 : Int32)), .val (.int p8), .val (.int (63 : Int32))] 89 rfl d12_86 rfl rfl ?_
      refine go_goto 14 (by decide) rfl d12_89 ?_
      refine go_iload 16 rfl d12_14 rfl ?_
      refine go_iload 18 rfl d12_16 rfl ?_
      refine go_icmp 92 21 rfl (by decide) rfl d12_18 rfl (fun (hc18 : (3 : Int) < (2 : Int)) => absurd hc18 (by decide)) (fun (hc18 : ¬ ((3 : Int) < (2 : Int))) => ?_)
      refine go_iload 23 rfl d12_21 rfl ?_
      refine go_iloadN 24 rfl d12_23 rfl ?_
      refine go_icmp 34 27 rfl (by decide) rfl d12_24 rfl (fun (hc24 : (2 : Int) ≠ (1 : Int)) => ?_) (fun (hc24 : ¬ ((2 : Int) ≠ (1 : Int))) => absurd hc24 (by decide))
      refine go_iconst (0 : Int32) 35 rfl d12_34 rfl ?_
      refine go_istore #[.val (.ref a1), .val (.int p4), .val (.int p5), .val (.int (1 : Int32)), .val (.int (3 : Int32)), .val (.int (2 : Int32)), .val (.int (0 : Int32)), .val (.int (63 : Int32))] 37 rfl d12_35 rfl rfl ?_
      refine go_iload 39 rfl d12_37 rfl ?_
      refine go_iload 41 rfl d12_39 rfl ?_
      refine go_icmp 51 44 rfl (by decide) rfl d12_41 rfl (fun (hc41 : (2 : Int) ≠ (3 : Int)) => ?_) (fun (hc41 : ¬ ((2 : Int) ≠ (3 : Int))) => absurd hc41 (by decide))
      refine go_bipush (63 : Int32) 53 rfl d12_51 rfl ?_
      refine go_istore #[.val (.ref a1), .val (.int p4), .val (.int p5), .val (.int (1 : Int32)), .val (.int (3 : Int32)), .val (.int (2 : Int32)), .val (.int (0 : Int32)), .val (.int (63 : Int32))] 55 rfl d12_53 rfl rfl ?_
      refine go_aloadN 56 rfl d12_55 rfl rfl ?_
      refine go_get 0 1 59 rfl d12_56 rfl rfl rfl (wd hw 30 rfl) ?_
      refine go_iload 61 rfl d12_59 rfl ?_
      refine go_dup2 62 rfl d12_61 rfl rfl rfl ?_
      refine go_laload 63 rfl d12_62 rfl (Mo.el (i := 1) rfl (by decide) rfl) ?_
      refine go_ldc2 (v := (-1 : Int64)) 66 rfl d12_63 (wd hw 44 rfl) ?_
      refine go_bipush (63 : Int32) 68 rfl d12_66 rfl ?_
      refine go_iload 70 rfl d12_68 rfl ?_
      refine go_isub 71 rfl d12_70 rfl ?_
      refine go_iload 73 rfl d12_71 rfl ?_
      refine go_iadd 74 rfl d12_73 rfl ?_
      refine go_lushr 75 rfl d12_74 rfl ?_
      refine go_iload 77 rfl d12_75 rfl ?_
      refine go_lshl 78 rfl d12_77 rfl ?_
      refine go_lor 79 rfl d12_78 rfl ?_
      show Go Btk4 Z a0 h0 _ 0 0 (M4 a1 a2 a3 a4 a5 a6 a7 q0 q71 q2 q3 z101 z201 z301 z102 z202 z302 z103 z203 z303 z104 z204 z304 z742 z743 z744 z106 z206 z306 z107 z207 z307 (1 : Int32) (1 : Int32) (0 : Int32)) 79 #[.val (.ref a1), .val (.int p4), .val (.int p5), .val (.int (1 : Int32)), .val (.int (3 : Int32)), .val (.int (2 : Int32)), .val (.int (0 : Int32)), .val (.int (63 : Int32))] [(.long (q2 ||| ((((-1 : Int64).toUInt64 >>> ((0 : Int32) &&& 0x3f).toInt64.toUInt64).toInt64) <<< ((0 : Int32) &&& 0x3f).toInt64))), (.int (2 : Int32)), (.ref a2)]
      have hx2 : Fre (P1 p4.toInt (p5.toInt + 1) C) 2 (q2 ||| ((((-1 : Int64).toUInt64 >>> ((0 : Int32) &&& 0x3f).toInt64.toUInt64).toInt64) <<< ((0 : Int32) &&& 0x3f).toInt64)) := fre_take (u := (0 : Int32)) (v := (63 : Int32)) (d := (0 : Int32)) e2 (by omega) (by omega) (by first | omega | decide) (by first | omega | decide) (by first | omega | decide) (by first | omega | decide) (by first | omega | decide) (by first | omega | decide)
      generalize (q2 ||| ((((-1 : Int64).toUInt64 >>> ((0 : Int32) &&& 0x3f).toInt64.toUInt64).toInt64) <<< ((0 : Int32) &&& 0x3f).toInt64)) = q72 at hx2 ⊢
      refine go_lastore 1 80 rfl d12_79 rfl rfl (by decide) (lbe rfl) ?_
      refine go_aloadN 81 rfl d12_80 rfl rfl ?_
      refine go_iload 83 rfl d12_81 rfl ?_
      refine go_callP (host := "") 86 rfl d12_83 (Or.inl (wd hw 67 rfl)) (wd hw 68 rfl) (wd hw 69 rfl) (wd hw 9 rfl) (wd hw 10 rfl) (wd hw 70 rfl) (by decide) (Mo.exa (i := 0) rfl) (m_chg4_2_0110 Z a0 hw h0 (P1 p4.toInt (p5.toInt + 1) C) a1 a2 a3 a4 a5 a6 a7 [(.long q0), (.long q71), (.long q72), (.long q3)] [(.long (0 : Int64)), (.long (0 : Int64)), (.long (0 : Int64)), (.long (0 : Int64))] [(.int (0 : Int32)), (.int z101), (.int z102), (.int z103), (.int z104), (.int z742), (.int z106), (.int z107)] [(.int (0 : Int32)), (.int z201), (.int z202), (.int z203), (.int z204), (.int z743), (.int z206), (.int z207)] [(.int (0 : Int32)), (.int z301), (.int z302), (.int z303), (.int z304), (.int z744), (.int z306), (.int z307)] q72 rfl rfl hx2 (lbe rfl) (lbe rfl) (lbe rfl)) (argsL := [(.int (2 : Int32))]) (rest := []) rfl (ps := [.int]) (by decide +kernel) rfl rfl 0 rfl (by decide) (by decide) (by decide) (by decide) ?_
      rintro _ _ ⟨z745, z746, z747, hz745, rfl, rfl⟩
      show Go Btk4 Z a0 h0 _ 0 0 (M4 a1 a2 a3 a4 a5 a6 a7 q0 q71 q72 q3 z101 z201 z301 z102 z202 z302 z103 z203 z303 z104 z204 z304 z742 z743 z744 z745 z746 z747 z107 z207 z307 (1 : Int32) (1 : Int32) (1 : Int32)) 86 #[.val (.ref a1), .val (.int p4), .val (.int p5), .val (.int (1 : Int32)), .val (.int (3 : Int32)), .val (.int (2 : Int32)), .val (.int (0 : Int32)), .val (.int (63 : Int32))] []
      refine go_iinc #[.val (.ref a1), .val (.int p4), .val (.int p5), .val (.int (1 : Int32)), .val (.int (3 : Int32)), .val (.int (3 : Int32)), .val (.int (0 : Int32)), .val (.int (63 : Int32))] 89 rfl d12_86 rfl rfl ?_
      refine go_goto 14 (by decide) rfl d12_89 ?_
      refine go_iload 16 rfl d12_14 rfl ?_
      refine go_iload 18 rfl d12_16 rfl ?_
      refine go_icmp 92 21 rfl (by decide) rfl d12_18 rfl (fun (hc18 : (3 : Int) < (3 : Int)) => absurd hc18 (by decide)) (fun (hc18 : ¬ ((3 : Int) < (3 : Int))) => ?_)
      refine go_iload 23 rfl d12_21 rfl ?_
      refine go_iloadN 24 rfl d12_23 rfl ?_
      refine go_icmp 34 27 rfl (by decide) rfl d12_24 rfl (fun (hc24 : (3 : Int) ≠ (1 : Int)) => ?_) (fun (hc24 : ¬ ((3 : Int) ≠ (1 : Int))) => absurd hc24 (by decide))
      refine go_iconst (0 : Int32) 35 rfl d12_34 rfl ?_
      refine go_istore #[.val (.ref a1), .val (.int p4), .val (.int p5), .val (.int (1 : Int32)), .val (.int (3 : Int32)), .val (.int (3 : Int32)), .val (.int (0 : Int32)), .val (.int (63 : Int32))] 37 rfl d12_35 rfl rfl ?_
      refine go_iload 39 rfl d12_37 rfl ?_
      refine go_iload 41 rfl d12_39 rfl ?_
      refine go_icmp 51 44 rfl (by decide) rfl d12_41 rfl (fun (hc41 : (3 : Int) ≠ (3 : Int)) => absurd hc41 (by decide)) (fun (hc41 : ¬ ((3 : Int) ≠ (3 : Int))) => ?_)
      refine go_iloadN 45 rfl d12_44 rfl ?_
      refine go_bipush (64 : Int32) 47 rfl d12_45 rfl ?_
      refine go_irem 48 rfl d12_47 rfl (by decide) ?_
      generalize er2 : p5 % (64 : Int32) = p9 at rb ⊢
      refine go_goto 53 (by decide) rfl d12_48 ?_
      refine go_istore #[.val (.ref a1), .val (.int p4), .val (.int p5), .val (.int (1 : Int32)), .val (.int (3 : Int32)), .val (.int (3 : Int32)), .val (.int (0 : Int32)), .val (.int p9)] 55 rfl d12_53 rfl rfl ?_
      refine go_aloadN 56 rfl d12_55 rfl rfl ?_
      refine go_get 0 1 59 rfl d12_56 rfl rfl rfl (wd hw 30 rfl) ?_
      refine go_iload 61 rfl d12_59 rfl ?_
      refine go_dup2 62 rfl d12_61 rfl rfl rfl ?_
      refine go_laload 63 rfl d12_62 rfl (Mo.el (i := 1) rfl (by decide) rfl) ?_
      refine go_ldc2 (v := (-1 : Int64)) 66 rfl d12_63 (wd hw 44 rfl) ?_
      refine go_bipush (63 : Int32) 68 rfl d12_66 rfl ?_
      refine go_iload 70 rfl d12_68 rfl ?_
      refine go_isub 71 rfl d12_70 rfl ?_
      have fa18 : ((63 : Int32) - p9).toInt = (63 : Int) - p9.toInt := subE rfl rfl (by omega)
      refine go_iload 73 rfl d12_71 rfl ?_
      refine go_iadd 74 rfl d12_73 rfl ?_
      have fa19 : (((63 : Int32) - p9) + (0 : Int32)).toInt = ((63 : Int32) - p9).toInt + (0 : Int) := addE rfl rfl (by omega)
      refine go_lushr 75 rfl d12_74 rfl ?_
      refine go_iload 77 rfl d12_75 rfl ?_
      refine go_lshl 78 rfl d12_77 rfl ?_
      refine go_lor 79 rfl d12_78 rfl ?_
      show Go Btk4 Z a0 h0 _ 0 0 (M4 a1 a2 a3 a4 a5 a6 a7 q0 q71 q72 q3 z101 z201 z301 z102 z202 z302 z103 z203 z303 z104 z204 z304 z742 z743 z744 z745 z746 z747 z107 z207 z307 (1 : Int32) (1 : Int32) (1 : Int32)) 79 #[.val (.ref a1), .val (.int p4), .val (.int p5), .val (.int (1 : Int32)), .val (.int (3 : Int32)), .val (.int (3 : Int32)), .val (.int (0 : Int32)), .val (.int p9)] [(.long (q3 ||| ((((-1 : Int64).toUInt64 >>> ((((63 : Int32) - p9) + (0 : Int32)) &&& 0x3f).toInt64.toUInt64).toInt64) <<< ((0 : Int32) &&& 0x3f).toInt64))), (.int (3 : Int32)), (.ref a2)]
      have hx3 : Fre (P1 p4.toInt (p5.toInt + 1) C) 3 (q3 ||| ((((-1 : Int64).toUInt64 >>> ((((63 : Int32) - p9) + (0 : Int32)) &&& 0x3f).toInt64.toUInt64).toInt64) <<< ((0 : Int32) &&& 0x3f).toInt64)) := fre_take (u := (0 : Int32)) (v := p9) (d := (((63 : Int32) - p9) + (0 : Int32))) e3 (by omega) (by omega) (by first | omega | decide) (by first | omega | decide) (by first | omega | decide) (by first | omega | decide) (by first | omega | decide) (by first | omega | decide)
      generalize (q3 ||| ((((-1 : Int64).toUInt64 >>> ((((63 : Int32) - p9) + (0 : Int32)) &&& 0x3f).toInt64.toUInt64).toInt64) <<< ((0 : Int32) &&& 0x3f).toInt64)) = q73 at hx3 ⊢
      refine go_lastore 1 80 rfl d12_79 rfl rfl (by decide) (lbe rfl) ?_
      refine go_aloadN 81 rfl d12_80 rfl rfl ?_
      refine go_iload 83 rfl d12_81 rfl ?_
      refine go_callP (host := "") 86 rfl d12_83 (Or.inl (wd hw 67 rfl)) (wd hw 68 rfl) (wd hw 69 rfl) (wd hw 9 rfl) (wd hw 10 rfl) (wd hw 70 rfl) (by decide) (Mo.exa (i := 0) rfl) (m_chg4_3_0111 Z a0 hw h0 (P1 p4.toInt (p5.toInt + 1) C) a1 a2 a3 a4 a5 a6 a7 [(.long q0), (.long q71), (.long q72), (.long q73)] [(.long (0 : Int64)), (.long (0 : Int64)), (.long (0 : Int64)), (.long (0 : Int64))] [(.int (0 : Int32)), (.int z101), (.int z102), (.int z103), (.int z104), (.int z742), (.int z745), (.int z107)] [(.int (0 : Int32)), (.int z201), (.int z202), (.int z203), (.int z204), (.int z743), (.int z746), (.int z207)] [(.int (0 : Int32)), (.int z301), (.int z302), (.int z303), (.int z304), (.int z744), (.int z747), (.int z307)] q73 rfl rfl hx3 (lbe rfl) (lbe rfl) (lbe rfl)) (argsL := [(.int (3 : Int32))]) (rest := []) rfl (ps := [.int]) (by decide +kernel) rfl rfl 0 rfl (by decide) (by decide) (by decide) (by decide) ?_
      rintro _ _ ⟨z748, z749, z750, hz748, rfl, rfl⟩
      show Go Btk4 Z a0 h0 _ 0 0 (M4 a1 a2 a3 a4 a5 a6 a7 q0 q71 q72 q73 z101 z201 z301 z102 z202 z302 z103 z203 z303 z104 z204 z304 z742 z743 z744 z745 z746 z747 z748 z749 z750 (1 : Int32) (1 : Int32) (1 : Int32)) 86 #[.val (.ref a1), .val (.int p4), .val (.int p5), .val (.int (1 : Int32)), .val (.int (3 : Int32)), .val (.int (3 : Int32)), .val (.int (0 : Int32)), .val (.int p9)] []
      refine go_iinc #[.val (.ref a1), .val (.int p4), .val (.int p5), .val (.int (1 : Int32)), .val (.int (3 : Int32)), .val (.int (4 : Int32)), .val (.int (0 : Int32)), .val (.int p9)] 89 rfl d12_86 rfl rfl ?_
      refine go_goto 14 (by decide) rfl d12_89 ?_
      refine go_iload 16 rfl d12_14 rfl ?_
      refine go_iload 18 rfl d12_16 rfl ?_
      refine go_icmp 92 21 rfl (by decide) rfl d12_18 rfl (fun (hc18 : (3 : Int) < (4 : Int)) => ?_) (fun (hc18 : ¬ ((3 : Int) < (4 : Int))) => absurd hc18 (by decide))
      exact go_return d12_92 rfl rfl (by decide) (by decide) ⟨_, _, _, _, _, _, _, _, _, _, _, _, _, _, _, _, _, _, _, Inv4.mk (fre_out e0 (by omega) (by omega) (by omega)) (hx1) (hx2) (hx3) (sm_out s4 (by omega) (by omega) (by omega)) (hz742) (hz745) (hz748) (fun h => absurd h (by decide)) (fun h => absurd h (by decide)) (fun h => absurd h (by decide)), rfl, rfl⟩
  · rw [ha]
    have gha := congrArg Int32.toInt ha; have lha : (2 : Int32).toInt = 2 := rfl
    refine go_istoreN #[.val (.ref a1), .val (.int p4), .val (.int p5), .val (.int (2 : Int32)), .unset, .unset, .unset, .unset] 5 rfl d12_4 rfl rfl ?_
    refine go_iloadN 6 rfl d12_5 rfl ?_
    refine go_bipush (64 : Int32) 8 rfl d12_6 rfl ?_
    refine go_idiv 9 rfl d12_8 rfl (by decide) ?_
    have hb : (p5 / (64 : Int32)) = (2 : Int32) ∨ (p5 / (64 : Int32)) = (3 : Int32) := by
      have : (p5 / (64 : Int32)).toInt = 2 ∨ (p5 / (64 : Int32)).toInt = 3 := by omega
      rcases this with q | q
      · exact Or.inl (i32_of q rfl)
      · exact Or.inr (i32_of q rfl)
    rcases hb with hb | hb
    · rw [hb]
      have ghb := congrArg Int32.toInt hb; have lhb : (2 : Int32).toInt = 2 := rfl
      refine go_istore #[.val (.ref a1), .val (.int p4), .val (.int p5), .val (.int (2 : Int32)), .val (.int (2 : Int32)), .unset, .unset, .unset] 11 rfl d12_9 rfl rfl ?_
      refine go_iloadN 12 rfl d12_11 rfl ?_
      refine go_istore #[.val (.ref a1), .val (.int p4), .val (.int p5), .val (.int (2 : Int32)), .val (.int (2 : Int32)), .val (.int (2 : Int32)), .unset, .unset] 14 rfl d12_12 rfl rfl ?_
      refine go_iload 16 rfl d12_14 rfl ?_
      refine go_iload 18 rfl d12_16 rfl ?_
      refine go_icmp 92 21 rfl (by decide) rfl d12_18 rfl (fun (hc18 : (2 : Int) < (2 : Int)) => absurd hc18 (by decide)) (fun (hc18 : ¬ ((2 : Int) < (2 : Int))) => ?_)
      refine go_iload 23 rfl d12_21 rfl ?_
      refine go_iloadN 24 rfl d12_23 rfl ?_
      refine go_icmp 34 27 rfl (by decide) rfl d12_24 rfl (fun (hc24 : (2 : Int) ≠ (2 : Int)) => absurd hc24 (by decide)) (fun (hc24 : ¬ ((2 : Int) ≠ (2 : Int))) => ?_)
      refine go_iloadN 28 rfl d12_27 rfl ?_
      refine go_bipush (64 : Int32) 30 rfl d12_28 rfl ?_
      refine go_irem 31 rfl d12_30 rfl (by decide) ?_
      generalize er : p4 % (64 : Int32) = p8 at ra ⊢
      refine go_goto 35 (by decide) rfl d12_31 ?_
      refine go_istore #[.val (.ref a1), .val (.int p4), .val (.int p5), .val (.int (2 : Int32)), .val (.int (2 : Int32)), .val (.int (2 : Int32)), .val (.int p8), .unset] 37 rfl d12_35 rfl rfl ?_
      refine go_iload 39 rfl d12_37 rfl ?_
      refine go_iload 41 rfl d12_39 rfl ?_
      refine go_icmp 51 44 rfl (by decide) rfl d12_41 rfl (fun (hc41 : (2 : Int) ≠ (2 : Int)) => absurd hc41 (by decide)) (fun (hc41 : ¬ ((2 : Int) ≠ (2 : Int))) => ?_)
      refine go_iloadN 45 rfl d12_44 rfl ?_
      refine go_bipush (64 : Int32) 47 rfl d12_45 rfl ?_
      refine go_irem 48 rfl d12_47 rfl (by decide) ?_
      generalize er2 : p5 % (64 : Int32) = p9 at rb ⊢
      refine go_goto 53 (by decide) rfl d12_48 ?_
      refine go_istore #[.val (.ref a1), .val (.int p4), .val (.int p5), .val (.int (2 : Int32)), .val (.int (2 : Int32)), .val (.int (2 : Int32)), .val (.int p8), .val (.int p9)] 55 rfl d12_53 rfl rfl ?_
      refine go_aloadN 56 rfl d12_55 rfl rfl ?_
      refine go_get 0 1 59 rfl d12_56 rfl rfl rfl (wd hw 30 rfl) ?_
      refine go_iload 61 rfl d12_59 rfl ?_
      refine go_dup2 62 rfl d12_61 rfl rfl rfl ?_
      refine go_laload 63 rfl d12_62 rfl (Mo.el (i := 1) rfl (by decide) rfl) ?_
      refine go_ldc2 (v := (-1 : Int64)) 66 rfl d12_63 (wd hw 44 rfl) ?_
      refine go_bipush (63 : Int32) 68 rfl d12_66 rfl ?_
      refine go_iload 70 rfl d12_68 rfl ?_
      refine go_isub 71 rfl d12_70 rfl ?_
      have fa20 : ((63 : Int32) - p9).toInt = (63 : Int) - p9.toInt := subE rfl rfl (by omega)
      refine go_iload 73 rfl d12_71 rfl ?_
      refine go_iadd 74 rfl d12_73 rfl ?_
      have fa21 : (((63 : Int32) - p9) + p8).toInt = ((63 : Int32) - p9).toInt + p8.toInt := addE rfl rfl (by omega)
      refine go_lushr 75 rfl d12_74 rfl ?_
      refine go_iload 77 rfl d12_75 rfl ?_
      refine go_lshl 78 rfl d12_77 rfl ?_
      refine go_lor 79 rfl d12_78 rfl ?_
      show Go Btk4 Z a0 h0 _ 0 0 (M4 a1 a2 a3 a4 a5 a6 a7 q0 q1 q2 q3 z101 z201 z301 z102 z202 z302 z103 z203 z303 z104 z204 z304 z105 z205 z305 z106 z206 z306 z107 z207 z307 (0 : Int32) (0 : Int32) (0 : Int32)) 79 #[.val (.ref a1), .val (.int p4), .val (.int p5), .val (.int (2 : Int32)), .val (.int (2 : Int32)), .val (.int (2 : Int32)), .val (.int p8), .val (.int p9)] [(.long (q2 ||| ((((-1 : Int64).toUInt64 >>> ((((63 : Int32) - p9) + p8) &&& 0x3f).toInt64.toUInt64).toInt64) <<< (p8 &&& 0x3f).toInt64))), (.int (2 : Int32)), (.ref a2)]
      have hx2 : Fre (P1 p4.toInt (p5.toInt + 1) C) 2 (q2 ||| ((((-1 : Int64).toUInt64 >>> ((((63 : Int32) - p9) + p8) &&& 0x3f).toInt64.toUInt64).toInt64) <<< (p8 &&& 0x3f).toInt64)) := fre_take (u := p8) (v := p9) (d := (((63 : Int32) - p9) + p8)) e2 (by omega) (by omega) (by first | omega | decide) (by first | omega | decide) (by first | omega | decide) (by first | omega | decide) (by first | omega | decide) (by first | omega | decide)
      generalize (q2 ||| ((((-1 : Int64).toUInt64 >>> ((((63 : Int32) - p9) + p8) &&& 0x3f).toInt64.toUInt64).toInt64) <<< (p8 &&& 0x3f).toInt64)) = q72 at hx2 ⊢
      refine go_lastore 1 80 rfl d12_79 rfl rfl (by decide) (lbe rfl) ?_
      refine go_aloadN 81 rfl d12_80 rfl rfl ?_
      refine go_iload 83 rfl d12_81 rfl ?_
      refine go_callP (host := "") 86 rfl d12_83 (Or.inl (wd hw 67 rfl)) (wd hw 68 rfl) (wd hw 69 rfl) (wd hw 9 rfl) (wd hw 10 rfl) (wd hw 70 rfl) (by decide) (Mo.exa (i := 0) rfl) (m_chg4_2_0000 Z a0 hw h0 (P1 p4.toInt (p5.toInt + 1) C) a1 a2 a3 a4 a5 a6 a7 [(.long q0), (.long q1), (.long q72), (.long q3)] [(.long (0 : Int64)), (.long (0 : Int64)), (.long (0 : Int64)), (.long (0 : Int64))] [(.int (0 : Int32)), (.int z101), (.int z102), (.int z103), (.int z104), (.int z105), (.int z106), (.int z107)] [(.int (0 : Int32)), (.int z201), (.int z202), (.int z203), (.int z204), (.int z205), (.int z206), (.int z207)] [(.int (0 : Int32)), (.int z301), (.int z302), (.int z303), (.int z304), (.int z305), (.int z306), (.int z307)] q72 rfl rfl hx2 (lbe rfl) (lbe rfl) (lbe rfl)) (argsL := [(.int (2 : Int32))]) (rest := []) rfl (ps := [.int]) (by decide +kernel) rfl rfl 0 rfl (by decide) (by decide) (by decide) (by decide) ?_
      rintro _ _ ⟨z751, z752, z753, hz751, rfl, rfl⟩
      show Go Btk4 Z a0 h0 _ 0 0 (M4 a1 a2 a3 a4 a5 a6 a7 q0 q1 q72 q3 z101 z201 z301 z102 z202 z302 z103 z203 z303 z104 z204 z304 z105 z205 z305 z751 z752 z753 z107 z207 z307 (1 : Int32) (0 : Int32) (1 : Int32)) 86 #[.val (.ref a1), .val (.int p4), .val (.int p5), .val (.int (2 : Int32)), .val (.int (2 : Int32)), .val (.int (2 : Int32)), .val (.int p8), .val (.int p9)] []
      refine go_iinc #[.val (.ref a1), .val (.int p4), .val (.int p5), .val (.int (2 : Int32)), .val (.int (2 : Int32)), .val (.int (3 : Int32)), .val (.int p8), .val (.int p9)] 89 rfl d12_86 rfl rfl ?_
      refine go_goto 14 (by decide) rfl d12_89 ?_
      refine go_iload 16 rfl d12_14 rfl ?_
      refine go_iload 18 rfl d12_16 rfl ?_
      refine go_icmp 92 21 rfl (by decide) rfl d12_18 rfl (fun (hc18 : (2 : Int) < (3 : Int)) => ?_) (fun (hc18 : ¬ ((2 : Int) < (3 : Int))) => absurd hc18 (by decide))
      exact go_return d12_92 rfl rfl (by decide) (by decide) ⟨_, _, _, _, _, _, _, _, _, _, _, _, _, _, _, _, _, _, _, Inv4.mk (fre_out e0 (by omega) (by omega) (by omega)) (fre_out e1 (by omega) (by omega) (by omega)) (hx2) (fre_out e3 (by omega) (by omega) (by omega)) (sm_out s4 (by omega) (by omega) (by omega)) (sm_out s5 (by omega) (by omega) (by omega)) (hz751) (sm_out s7 (by omega) (by omega) (by omega)) (fun h => absurd h (by decide)) (fun _ => sm_out s2 (by omega) (by omega) (by omega)) (fun h => absurd h (by decide)), rfl, rfl⟩
    · rw [hb]
      have ghb := congrArg Int32.toInt hb; have lhb : (3 : Int32).toInt = 3 := rfl
      refine go_istore #[.val (.ref a1), .val (.int p4), .val (.int p5), .val (.int (2 : Int32)), .val (.int (3 : Int32)), .unset, .unset, .unset] 11 rfl d12_9 rfl rfl ?_
      refine go_iloadN 12 rfl d12_11 rfl ?_
      refine go_istore #[.val (.ref a1), .val (.int p4), .val (.int p5), .val (.int (2 : Int32)), .val (.int (3 : Int32)), .val (.int (2 : Int32)), .unset, .unset] 14 rfl d12_12 rfl rfl ?_
      refine go_iload 16 rfl d12_14 rfl ?_
      refine go_iload 18 rfl d12_16 rfl ?_
      refine go_icmp 92 21 rfl (by decide) rfl d12_18 rfl (fun (hc18 : (3 : Int) < (2 : Int)) => absurd hc18 (by decide)) (fun (hc18 : ¬ ((3 : Int) < (2 : Int))) => ?_)
      refine go_iload 23 rfl d12_21 rfl ?_
      refine go_iloadN 24 rfl d12_23 rfl ?_
      refine go_icmp 34 27 rfl (by decide) rfl d12_24 rfl (fun (hc24 : (2 : Int) ≠ (2 : Int)) => absurd hc24 (by decide)) (fun (hc24 : ¬ ((2 : Int) ≠ (2 : Int))) => ?_)
      refine go_iloadN 28 rfl d12_27 rfl ?_
      refine go_bipush (64 : Int32) 30 rfl d12_28 rfl ?_
      refine go_irem 31 rfl d12_30 rfl (by decide) ?_
      generalize er : p4 % (64 : Int32) = p8 at ra ⊢
      refine go_goto 35 (by decide) rfl d12_31 ?_
      refine go_istore #[.val (.ref a1), .val (.int p4), .val (.int p5), .val (.int (2 : Int32)), .val (.int (3 : Int32)), .val (.int (2 : Int32)), .val (.int p8), .unset] 37 rfl d12_35 rfl rfl ?_
      refine go_iload 39 rfl d12_37 rfl ?_
      refine go_iload 41 rfl d12_39 rfl ?_
      refine go_icmp 51 44 rfl (by decide) rfl d12_41 rfl (fun (hc41 : (2 : Int) ≠ (3 : Int)) => ?_) (fun (hc41 : ¬ ((2 : Int) ≠ (3 : Int))) => absurd hc41 (by decide))
      refine go_bipush (63 : Int32) 53 rfl d12_51 rfl ?_
      refine go_istore #[.val (.ref a1), .val (.int p4), .val (.int p5), .val (.int (2 : Int32)), .val (.int (3 : Int32)), .val (.int (2 : Int32)), .val (.int p8), .val (.int (63 : Int32))] 55 rfl d12_53 rfl rfl ?_
      refine go_aloadN 56 rfl d12_55 rfl rfl ?_
      refine go_get 0 1 59 rfl d12_56 rfl rfl rfl (wd hw 30 rfl) ?_
      refine go_iload 61 rfl d12_59 rfl ?_
      refine go_dup2 62 rfl d12_61 rfl rfl rfl ?_
      refine go_laload 63 rfl d12_62 rfl (Mo.el (i := 1) rfl (by decide) rfl) ?_
      refine go_ldc2 (v := (-1 : Int64)) 66 rfl d12_63 (wd hw 44 rfl) ?_
      refine go_bipush (63 : Int32) 68 rfl d12_66 rfl ?_
      refine go_iload 70 rfl d12_68 rfl ?_
      refine go_isub 71 rfl d12_70 rfl ?_
      refine go_iload 73 rfl d12_71 rfl ?_
      refine go_iadd 74 rfl d12_73 rfl ?_
      have fa22 : ((0 : Int32) + p8).toInt = (0 : Int) + p8.toInt := addE rfl rfl (by omega)
      refine go_lushr 75 rfl d12_74 rfl ?_
      refine go_iload 77 rfl d12_75 rfl ?_
      refine go_lshl 78 rfl d12_77 rfl ?_
      refine go_lor 79 rfl d12_78 rfl ?_
      show Go Btk4 Z a0 h0 _ 0 0 (M4 a1 a2 a3 a4 a5 a6 a7 q0 q1 q2 q3 z101 z201 z301 z102 z202 z302 z103 z203 z303 z104 z204 z304 z105 z205 z305 z106 z206 z306 z107 z207 z307 (0 : Int32) (0 : Int32) (0 : Int32)) 79 #[.val (.ref a1), .val (.int p4), .val (.int p5), .val (.int (2 : Int32)), .val (.int (3 : Int32)), .val (.int (2 : Int32)), .val (.int p8), .val (.int (63 : Int32))] [(.long (q2 ||| ((((-1 : Int64).toUInt64 >>> (((0 : Int32) + p8) &&& 0x3f).toInt64.toUInt64).toInt64) <<< (p8 &&& 0x3f).toInt64))), (.int (2 : Int32)), (.ref a2)]
      have hx2 : Fre (P1 p4.toInt (p5.toInt + 1) C) 2 (q2 ||| ((((-1 : Int64).toUInt64 >>> (((0 : Int32) + p8) &&& 0x3f).toInt64.toUInt64).toInt64) <<< (p8 &&& 0x3f).toInt64)) := fre_take (u := p8) (v := (63 : Int32)) (d := ((0 : Int32) + p8)) e2 (by omega) (by omega) (by first | omega | decide) (by first | omega | decide) (by first | omega | decide) (by first | omega | decide) (by first | omega | decide) (by first | omega | decide)
      generalize (q2 ||| ((((-1 : Int64).toUInt64 >>> (((0 : Int32) + p8) &&& 0x3f).toInt64.toUInt64).toInt64) <<< (p8 &&& 0x3f).toInt64)) = q72 at hx2 ⊢
      refine go_lastore 1 80 rfl d12_79 rfl rfl (by decide) (lbe rfl) ?_
      refine go_aloadN 81 rfl d12_80 rfl rfl ?_
      refine go_iload 83 rfl d12_81 rfl ?_
      refine go_callP (host := "") 86 rfl d12_83 (Or.inl (wd hw 67 rfl)) (wd hw 68 rfl) (wd hw 69 rfl) (wd hw 9 rfl) (wd hw 10 rfl) (wd hw 70 rfl) (by decide) (Mo.exa (i := 0) rfl) (m_chg4_2_0000 Z a0 hw h0 (P1 p4.toInt (p5.toInt + 1) C) a1 a2 a3 a4 a5 a6 a7 [(.long q0), (.long q1), (.long q72), (.long q3)] [(.long (0 : Int64)), (.long (0 : Int64)), (.long (0 : Int64)), (.long (0 : Int64))] [(.int (0 : Int32)), (.int z101), (.int z102), (.int z103), (.int z104), (.int z105), (.int z106), (.int z107)] [(.int (0 : Int32)), (.int z201), (.int z202), (.int z203), (.int z204), (.int z205), (.int z206), (.int z207)] [(.int (0 : Int32)), (.int z301), (.int z302), (.int z303), (.int z304), (.int z305), (.int z306), (.int z307)] q72 rfl rfl hx2 (lbe rfl) (lbe rfl) (lbe rfl)) (argsL := [(.int (2 : Int32))]) (rest := []) rfl (ps := [.int]) (by decide +kernel) rfl rfl 0 rfl (by decide) (by decide) (by decide) (by decide) ?_
      rintro _ _ ⟨z754, z755, z756, hz754, rfl, rfl⟩
      show Go Btk4 Z a0 h0 _ 0 0 (M4 a1 a2 a3 a4 a5 a6 a7 q0 q1 q72 q3 z101 z201 z301 z102 z202 z302 z103 z203 z303 z104 z204 z304 z105 z205 z305 z754 z755 z756 z107 z207 z307 (1 : Int32) (0 : Int32) (1 : Int32)) 86 #[.val (.ref a1), .val (.int p4), .val (.int p5), .val (.int (2 : Int32)), .val (.int (3 : Int32)), .val (.int (2 : Int32)), .val (.int p8), .val (.int (63 : Int32))] []
      refine go_iinc #[.val (.ref a1), .val (.int p4), .val (.int p5), .val (.int (2 : Int32)), .val (.int (3 : Int32)), .val (.int (3 : Int32)), .val (.int p8), .val (.int (63 : Int32))] 89 rfl d12_86 rfl rfl ?_
      refine go_goto 14 (by decide) rfl d12_89 ?_
      refine go_iload 16 rfl d12_14 rfl ?_
      refine go_iload 18 rfl d12_16 rfl ?_
      refine go_icmp 92 21 rfl (by decide) rfl d12_18 rfl (fun (hc18 : (3 : Int) < (3 : Int)) => absurd hc18 (by decide)) (fun (hc18 : ¬ ((3 : Int) < (3 : Int))) => ?_)
      refine go_iload 23 rfl d12_21 rfl ?_
      refine go_iloadN 24 rfl d12_23 rfl ?_
      refine go_icmp 34 27 rfl (by decide) rfl d12_24 rfl (fun (hc24 : (3 : Int) ≠ (2 : Int)) => ?_) (fun (hc24 : ¬ ((3 : Int) ≠ (2 : Int))) => absurd hc24 (by decide))
      refine go_iconst (0 : Int32) 35 rfl d12_34 rfl ?_
      refine go_istore #[.val (.ref a1), .val (.int p4), .val (.int p5), .val (.int (2 : Int32)), .val (.int (3 : Int32)), .val (.int (3 : Int32)), .val (.int (0 : Int32)), .val (.int (63 : Int32))] 37 rfl d12_35 rfl rfl ?_
      refine go_iload 39 rfl d12_37 rfl ?_
      refine go_iload 41 rfl d12_39 rfl ?_
      refine go_icmp 51 44 rfl (by decide) rfl d12_41 rfl (fun (hc41 : (3 : Int) ≠ (3 : Int)) => absurd hc41 (by decide)) (fun (hc41 : ¬ ((3 : Int) ≠ (3 : Int))) => ?_)
      refine go_iloadN 45 rfl d12_44 rfl ?_
      refine go_bipush (64 : Int32) 47 rfl d12_45 rfl ?_
      refine go_irem 48 rfl d12_47 rfl (by decide) ?_
      generalize er2 : p5 % (64 : Int32) = p9 at rb ⊢
      refine go_goto 53 (by decide) rfl d12_48 ?_
      refine go_istore #[.val (.ref a1), .val (.int p4), .val (.int p5), .val (.int (2 : Int32)), .val (.int (3 : Int32)), .val (.int (3 : Int32)), .val (.int (0 : Int32)), .val (.int p9)] 55 rfl d12_53 rfl rfl ?_
      refine go_aloadN 56 rfl d12_55 rfl rfl ?_
      refine go_get 0 1 59 rfl d12_56 rfl rfl rfl (wd hw 30 rfl) ?_
      refine go_iload 61 rfl d12_59 rfl ?_
      refine go_dup2 62 rfl d12_61 rfl rfl rfl ?_
      refine go_laload 63 rfl d12_62 rfl (Mo.el (i := 1) rfl (by decide) rfl) ?_
      refine go_ldc2 (v := (-1 : Int64)) 66 rfl d12_63 (wd hw 44 rfl) ?_
      refine go_bipush (63 : Int32) 68 rfl d12_66 rfl ?_
      refine go_iload 70 rfl d12_68 rfl ?_
      refine go_isub 71 rfl d12_70 rfl ?_
      have fa23 : ((63 : Int32) - p9).toInt = (63 : Int) - p9.toInt := subE rfl rfl (by omega)
      refine go_iload 73 rfl d12_71 rfl ?_
      refine go_iadd 74 rfl d12_73 rfl ?_
      have fa24 : (((63 : Int32) - p9) + (0 : Int32)).toInt = ((63 : Int32) - p9).toInt + (0 : Int) := addE rfl rfl (by omega)
      refine go_lushr 75 rfl d12_74 rfl ?_
      refine go_iload 77 rfl d12_75 rfl ?_
      refine go_lshl 78 rfl d12_77 rfl ?_
      refine go_lor 79 rfl d12_78 rfl ?_
      show Go Btk4 Z a0 h0 _ 0 0 (M4 a1 a2 a3 a4 a5 a6 a7 q0 q1 q72 q3 z101 z201 z301 z102 z202 z302 z103 z203 z303 z104 z204 z304 z105 z205 z305 z754 z755 z756 z107 z207 z307 (1 : Int32) (0 : Int32) (1 : Int32)) 79 #[.val (.ref a1), .val (.int p4), .val (.int p5), .val (.int (2 : Int32)), .val (.int (3 : Int32)), .val (.int (3 : Int32)), .val (.int (0 : Int32)), .val (.int p9)] [(.long (q3 ||| ((((-1 : Int64).toUInt64 >>> ((((63 : Int32) - p9) + (0 : Int32)) &&& 0x3f).toInt64.toUInt64).toInt64) <<< ((0 : Int32) &&& 0x3f).toInt64))), (.int (3 : Int32)), (.ref a2)]
      have hx3 : Fre (P1 p4.toInt (p5.toInt + 1) C) 3 (q3 ||| ((((-1 : Int64).toUInt64 >>> ((((63 : Int32) - p9) + (0 : Int32)) &&& 0x3f).toInt64.toUInt64).toInt64) <<< ((0 : Int32) &&& 0x3f).toInt64)) := fre_take (u := (0 : Int32)) (v := p9) (d := (((63 : Int32) - p9) + (0 : Int32))) e3 (by omega) (by omega) (by first | omega | decide) (by first | omega | decide) (by first | omega | decide) (by first | omega | decide) (by first | omega | decide) (by first | omega | decide)
      generalize (q3 ||| ((((-1 : Int64).toUInt64 >>> ((((63 : Int32) - p9) + (0 : Int32)) &&& 0x3f).toInt64.toUInt64).toInt64) <<< ((0 : Int32) &&& 0x3f).toInt64)) = q73 at hx3 ⊢
      refine go_lastore 1 80 rfl d12_79 rfl rfl (by decide) (lbe rfl) ?_
      refine go_aloadN 81 rfl d12_80 rfl rfl ?_
      refine go_iload 83 rfl d12_81 rfl ?_
      refine go_callP (host := "") 86 rfl d12_83 (Or.inl (wd hw 67 rfl)) (wd hw 68 rfl) (wd hw 69 rfl) (wd hw 9 rfl) (wd hw 10 rfl) (wd hw 70 rfl) (by decide) (Mo.exa (i := 0) rfl) (m_chg4_3_0101 Z a0 hw h0 (P1 p4.toInt (p5.toInt + 1) C) a1 a2 a3 a4 a5 a6 a7 [(.long q0), (.long q1), (.long q72), (.long q73)] [(.long (0 : Int64)), (.long (0 : Int64)), (.long (0 : Int64)), (.long (0 : Int64))] [(.int (0 : Int32)), (.int z101), (.int z102), (.int z103), (.int z104), (.int z105), (.int z754), (.int z107)] [(.int (0 : Int32)), (.int z201), (.int z202), (.int z203), (.int z204), (.int z205), (.int z755), (.int z207)] [(.int (0 : Int32)), (.int z301), (.int z302), (.int z303), (.int z304), (.int z305), (.int z756), (.int z307)] q73 rfl rfl hx3 (lbe rfl) (lbe rfl) (lbe rfl)) (argsL := [(.int (3 : Int32))]) (rest := []) rfl (ps := [.int]) (by decide +kernel) rfl rfl 0 rfl (by decide) (by decide) (by decide) (by decide) ?_
      rintro _ _ ⟨z757, z758, z759, hz757, rfl, rfl⟩
      show Go Btk4 Z a0 h0 _ 0 0 (M4 a1 a2 a3 a4 a5 a6 a7 q0 q1 q72 q73 z101 z201 z301 z102 z202 z302 z103 z203 z303 z104 z204 z304 z105 z205 z305 z754 z755 z756 z757 z758 z759 (1 : Int32) (0 : Int32) (1 : Int32)) 86 #[.val (.ref a1), .val (.int p4), .val (.int p5), .val (.int (2 : Int32)), .val (.int (3 : Int32)), .val (.int (3 : Int32)), .val (.int (0 : Int32)), .val (.int p9)] []
      refine go_iinc #[.val (.ref a1), .val (.int p4), .val (.int p5), .val (.int (2 : Int32)), .val (.int (3 : Int32)), .val (.int (4 : Int32)), .val (.int (0 : Int32)), .val (.int p9)] 89 rfl d12_86 rfl rfl ?_
      refine go_goto 14 (by decide) rfl d12_89 ?_
      refine go_iload 16 rfl d12_14 rfl ?_
      refine go_iload 18 rfl d12_16 rfl ?_
      refine go_icmp 92 21 rfl (by decide) rfl d12_18 rfl (fun (hc18 : (3 : Int) < (4 : Int)) => ?_) (fun (hc18 : ¬ ((3 : Int) < (4 : Int))) => absurd hc18 (by decide))
      exact go_return d12_92 rfl rfl (by decide) (by decide) ⟨_, _, _, _, _, _, _, _, _, _, _, _, _, _, _, _, _, _, _, Inv4.mk (fre_out e0 (by omega) (by omega) (by omega)) (fre_out e1 (by omega) (by omega) (by omega)) (hx2) (hx3) (sm_out s4 (by omega) (by omega) (by omega)) (sm_out s5 (by omega) (by omega) (by omega)) (hz754) (hz757) (fun h => absurd h (by decide)) (fun _ => sm_out s2 (by omega) (by omega) (by omega)) (fun h => absurd h (by decide)), rfl, rfl⟩
  · rw [ha]
    have gha := congrArg Int32.toInt ha; have lha : (3 : Int32).toInt = 3 := rfl
    refine go_istoreN #[.val (.ref a1), .val (.int p4), .val (.int p5), .val (.int (3 : Int32)), .unset, .unset, .unset, .unset] 5 rfl d12_4 rfl rfl ?_
    refine go_iloadN 6 rfl d12_5 rfl ?_
    refine go_bipush (64 : Int32) 8 rfl d12_6 rfl ?_
    refine go_idiv 9 rfl d12_8 rfl (by decide) ?_
    have hb : (p5 / (64 : Int32)) = (3 : Int32) := i32_of (k := 3) (by omega) rfl
    rw [hb]
    show Go Btk4 Z a0 h0 _ 0 0 (M4 a1 a2 a3 a4 a5 a6 a7 q0 q1 q2 q3 z101 z201 z301 z102 z202 z302 z103 z203 z303 z104 z204 z304 z105 z205 z305 z106 z206 z306 z107 z207 z307 (0 : Int32) (0 : Int32) (0 : Int32)) 9 #[.val (.ref a1), .val (.int p4), .val (.int p5), .val (.int (3 : Int32)), .unset, .unset, .unset, .unset] [(.int (3 : Int32))]
    have ghb := congrArg Int32.toInt hb; have lhb : (3 : Int32).toInt = 3 := rfl
    refine go_istore #[.val (.ref a1), .val (.int p4), .val (.int p5), .val (.int (3 : Int32)), .val (.int (3 : Int32)), .unset, .unset, .unset] 11 rfl d12_9 rfl rfl ?_
    refine go_iloadN 12 rfl d12_11 rfl ?_
    refine go_istore #[.val (.ref a1), .val (.int p4), .val (.int p5), .val (.int (3 : Int32)), .val (.int (3 : Int32)), .val (.int (3 : Int32)), .unset, .unset] 14 rfl d12_12 rfl rfl ?_
    refine go_iload 16 rfl d12_14 rfl ?_
    refine go_iload 18 rfl d12_16 rfl ?_
    refine go_icmp 92 21 rfl (by decide) rfl d12_18 rfl (fun (hc18 : (3 : Int) < (3 : Int)) => absurd hc18 (by decide)) (fun (hc18 : ¬ ((3 : Int) < (3 : Int))) => ?_)
    refine go_iload 23 rfl d12_21 rfl ?_
    refine go_iloadN 24 rfl d12_23 rfl ?_
    refine go_icmp 34 27 rfl (by decide) rfl d12_24 rfl (fun (hc24 : (3 : Int) ≠ (3 : Int)) => absurd hc24 (by decide)) (fun (hc24 : ¬ ((3 : Int) ≠ (3 : Int))) => ?_)
    refine go_iloadN 28 rfl d12_27 rfl ?_
    refine go_bipush (64 : Int32) 30 rfl d12_28 rfl ?_
    refine go_irem 31 rfl d12_30 rfl (by decide) ?_
    generalize er : p4 % (64 : Int32) = p8 at ra ⊢
    refine go_goto 35 (by decide) rfl d12_31 ?_
    refine go_istore #[.val (.ref a1), .val (.int p4), .val (.int p5), .val (.int (3 : Int32)), .val (.int (3 : Int32)), .val (.int (3 : Int32)), .val (.int p8), .unset] 37 rfl d12_35 rfl rfl ?_
    refine go_iload 39 rfl d12_37 rfl ?_
    refine go_iload 41 rfl d12_39 rfl ?_
    refine go_icmp 51 44 rfl (by decide) rfl d12_41 rfl (fun (hc41 : (3 : Int) ≠ (3 : Int)) => absurd hc41 (by decide)) (fun (hc41 : ¬ ((3 : Int) ≠ (3 : Int))) => ?_)
    refine go_iloadN 45 rfl d12_44 rfl ?_
    refine go_bipush (64 : Int32) 47 rfl d12_45 rfl ?_
    refine go_irem 48 rfl d12_47 rfl (by decide) ?_
    generalize er2 : p5 % (64 : Int32) = p9 at rb ⊢
    refine go_goto 53 (by decide) rfl d12_48 ?_
    refine go_istore #[.val (.ref a1), .val (.int p4), .val (.int p5), .val (.int (3 : Int32)), .val (.int (3 : Int32)), .val (.int (3 : Int32)), .val (.int p8), .val (.int p9)] 55 rfl d12_53 rfl rfl ?_
    refine go_aloadN 56 rfl d12_55 rfl rfl ?_
    refine go_get 0 1 59 rfl d12_56 rfl rfl rfl (wd hw 30 rfl) ?_
    refine go_iload 61 rfl d12_59 rfl ?_
    refine go_dup2 62 rfl d12_61 rfl rfl rfl ?_
    refine go_laload 63 rfl d12_62 rfl (Mo.el (i := 1) rfl (by decide) rfl) ?_
    refine go_ldc2 (v := (-1 : Int64)) 66 rfl d12_63 (wd hw 44 rfl) ?_
    refine go_bipush (63 : Int32) 68 rfl d12_66 rfl ?_
    refine go_iload 70 rfl d12_68 rfl ?_
    refine go_isub 71 rfl d12_70 rfl ?_
    have fa25 : ((63 : Int32) - p9).toInt = (63 : Int) - p9.toInt := subE rfl rfl (by omega)
    refine go_iload 73 rfl d12_71 rfl ?_
    refine go_iadd 74 rfl d12_73 rfl ?_
    have fa26 : (((63 : Int32) - p9) + p8).toInt = ((63 : Int32) - p9).toInt + p8.toInt := addE rfl rfl (by omega)
    refine go_lushr 75 rfl d12_74 rfl ?_
    refine go_iload 77 rfl d12_75 rfl ?_
    refine go_lshl 78 rfl d12_77 rfl ?_
    refine go_lor 79 rfl d12_78 rfl ?_
    show Go Btk4 Z a0 h0 _ 0 0 (M4 a1 a2 a3 a4 a5 a6 a7 q0 q1 q2 q3 z101 z201 z301 z102 z202 z302 z103 z203 z303 z104 z204 z304 z105 z205 z305 z106 z206 z306 z107 z207 z307 (0 : Int32) (0 : Int32) (0 : Int32)) 79 #[.val (.ref a1), .val (.int p4), .val (.int p5), .val (.int (3 : Int32)), .val (.int (3 : Int32)), .val (.int (3 : Int32)), .val (.int p8), .val (.int p9)] [(.long (q3 ||| ((((-1 : Int64).toUInt64 >>> ((((63 : Int32) - p9) + p8) &&& 0x3f).toInt64.toUInt64).toInt64) <<< (p8 &&& 0x3f).toInt64))), (.int (3 : Int32)), (.ref a2)]
    have hx3 : Fre (P1 p4.toInt (p5.toInt + 1) C) 3 (q3 ||| ((((-1 : Int64).toUInt64 >>> ((((63 : Int32) - p9) + p8) &&& 0x3f).toInt64.toUInt64).toInt64) <<< (p8 &&& 0x3f).toInt64)) := fre_take (u := p8) (v := p9) (d := (((63 : Int32) - p9) + p8)) e3 (by omega) (by omega) (by first | omega | decide) (by first | omega | decide) (by first | omega | decide) (by first | omega | decide) (by first | omega | decide) (by first | omega | decide)
    generalize (q3 ||| ((((-1 : Int64).toUInt64 >>> ((((63 : Int32) - p9) + p8) &&& 0x3f).toInt64.toUInt64).toInt64) <<< (p8 &&& 0x3f).toInt64)) = q73 at hx3 ⊢
    refine go_lastore 1 80 rfl d12_79 rfl rfl (by decide) (lbe rfl) ?_
    refine go_aloadN 81 rfl d12_80 rfl rfl ?_
    refine go_iload 83 rfl d12_81 rfl ?_
    refine go_callP (host := "") 86 rfl d12_83 (Or.inl (wd hw 67 rfl)) (wd hw 68 rfl) (wd hw 69 rfl) (wd hw 9 rfl) (wd hw 10 rfl) (wd hw 70 rfl) (by decide) (Mo.exa (i := 0) rfl) (m_chg4_3_0000 Z a0 hw h0 (P1 p4.toInt (p5.toInt + 1) C) a1 a2 a3 a4 a5 a6 a7 [(.long q0), (.long q1), (.long q2), (.long q73)] [(.long (0 : Int64)), (.long (0 : Int64)), (.long (0 : Int64)), (.long (0 : Int64))] [(.int (0 : Int32)), (.int z101), (.int z102), (.int z103), (.int z104), (.int z105), (.int z106), (.int z107)] [(.int (0 : Int32)), (.int z201), (.int z202), (.int z203), (.int z204), (.int z205), (.int z206), (.int z207)] [(.int (0 : Int32)), (.int z301), (.int z302), (.int z303), (.int z304), (.int z305), (.int z306), (.int z307)] q73 rfl rfl hx3 (lbe rfl) (lbe rfl) (lbe rfl)) (argsL := [(.int (3 : Int32))]) (rest := []) rfl (ps := [.int]) (by decide +kernel) rfl rfl 0 rfl (by decide) (by decide) (by decide) (by decide) ?_
    rintro _ _ ⟨z760, z761, z762, hz760, rfl, rfl⟩
    show Go Btk4 Z a0 h0 _ 0 0 (M4 a1 a2 a3 a4 a5 a6 a7 q0 q1 q2 q73 z101 z201 z301 z102 z202 z302 z103 z203 z303 z104 z204 z304 z105 z205 z305 z106 z206 z306 z760 z761 z762 (1 : Int32) (0 : Int32) (1 : Int32)) 86 #[.val (.ref a1), .val (.int p4), .val (.int p5), .val (.int (3 : Int32)), .val (.int (3 : Int32)), .val (.int (3 : Int32)), .val (.int p8), .val (.int p9)] []
    refine go_iinc #[.val (.ref a1), .val (.int p4), .val (.int p5), .val (.int (3 : Int32)), .val (.int (3 : Int32)), .val (.int (4 : Int32)), .val (.int p8), .val (.int p9)] 89 rfl d12_86 rfl rfl ?_
    refine go_goto 14 (by decide) rfl d12_89 ?_
    refine go_iload 16 rfl d12_14 rfl ?_
    refine go_iload 18 rfl d12_16 rfl ?_
    refine go_icmp 92 21 rfl (by decide) rfl d12_18 rfl (fun (hc18 : (3 : Int) < (4 : Int)) => ?_) (fun (hc18 : ¬ ((3 : Int) < (4 : Int))) => absurd hc18 (by decide))
    exact go_return d12_92 rfl rfl (by decide) (by decide) ⟨_, _, _, _, _, _, _, _, _, _, _, _, _, _, _, _, _, _, _, Inv4.mk (fre_out e0 (by omega) (by omega) (by omega)) (fre_out e1 (by omega) (by omega) (by omega)) (fre_out e2 (by omega) (by omega) (by omega)) (hx3) (sm_out s4 (by omega) (by omega) (by omega)) (sm_out s5 (by omega) (by omega) (by omega)) (sm_out s6 (by omega) (by omega) (by omega)) (hz760) (fun h => absurd h (by decide)) (fun _ => sm_out s2 (by omega) (by omega) (by omega)) (fun h => absurd h (by decide)), rfl, rfl⟩
theorem d3_0 : decode prog_101_method_1_code 0 = .ok (.aload_n 0, 1) := by decide +kernel
theorem d3_1 : decode prog_101_method_1_code 1 = .ok (.invokespecial 1, 3) := by decide +kernel
theorem d3_4 : decode prog_101_method_1_code 4 = .ok (.iconst 1, 1) := by decide +kernel
theorem d3_5 : decode prog_101_method_1_code 5 = .ok (.iload_n 1, 1) := by decide +kernel
theorem d3_6 : decode prog_101_method_1_code 6 = .ok (.bipush 64, 2) := by decide +kernel
theorem d3_8 : decode prog_101_method_1_code 8 = .ok (.iadd, 1) := by decide +kernel
theorem d3_9 : decode prog_101_method_1_code 9 = .ok (.iconst 1, 1) := by decide +kernel
theorem d3_10 : decode prog_101_method_1_code 10 = .ok (.isub, 1) := by decide +kernel
theorem d3_11 : decode prog_101_method_1_code 11 = .ok (.bipush 64, 2) := by decide +kernel
theorem d3_13 : decode prog_101_method_1_code 13 = .ok (.idiv, 1) := by decide +kernel
theorem d3_14 : decode prog_101_method_1_code 14 = .ok (.invokestatic 9, 3) := by decide +kernel
theorem d3_17 : decode prog_101_method_1_code 17 = .ok (.istore_n 2, 1) := by decide +kernel
theorem d3_18 : decode prog_101_method_1_code 18 = .ok (.aload_n 0, 1) := by decide +kernel
theorem d3_19 : decode prog_101_method_1_code 19 = .ok (.iconst 2, 1) := by decide +kernel
theorem d3_20 : decode prog_101_method_1_code 20 = .ok (.iload_n 2, 1) := by decide +kernel
theorem d3_21 : decode prog_101_method_1_code 21 = .ok (.imul, 1) := by decide +kernel
theorem d3_22 : decode prog_101_method_1_code 22 = .ok (.iconst 1, 1) := by decide +kernel
theorem d3_23 : decode prog_101_method_1_code 23 = .ok (.isub, 1) := by decide +kernel
theorem d3_24 : decode prog_101_method_1_code 24 = .ok (.invokestatic 15, 3) := by decide +kernel
theorem d3_27 : decode prog_101_method_1_code 27 = .ok (.putfield 21, 3) := by decide +kernel
theorem d3_30 : decode prog_101_method_1_code 30 = .ok (.aload_n 0, 1) := by decide +kernel
theorem d3_31 : decode prog_101_method_1_code 31 = .ok (.aload_n 0, 1) := by decide +kernel
theorem d3_32 : decode prog_101_method_1_code 32 = .ok (.getfield 21, 3) := by decide +kernel
theorem d3_35 : decode prog_101_method_1_code 35 = .ok (.newarray .long, 2) := by decide +kernel
theorem d3_37 : decode prog_101_method_1_code 37 = .ok (.putfield 25, 3) := by decide +kernel
theorem d3_40 : decode prog_101_method_1_code 40 = .ok (.aload_n 0, 1) := by decide +kernel
theorem d3_41 : decode prog_101_method_1_code 41 = .ok (.aload_n 0, 1) := by decide +kernel
theorem d3_42 : decode prog_101_method_1_code 42 = .ok (.getfield 21, 3) := by decide +kernel
theorem d3_45 : decode prog_101_method_1_code 45 = .ok (.newarray .long, 2) := by decide +kernel
theorem d3_47 : decode prog_101_method_1_code 47 = .ok (.putfield 29, 3) := by decide +kernel
theorem d3_50 : decode prog_101_method_1_code 50 = .ok (.aload_n 0, 1) := by decide +kernel
theorem d3_51 : decode prog_101_method_1_code 51 = .ok (.iconst 2, 1) := by decide +kernel
theorem d3_52 : decode prog_101_method_1_code 52 = .ok (.aload_n 0, 1) := by decide +kernel
theorem d3_53 : decode prog_101_method_1_code 53 = .ok (.getfield 21, 3) := by decide +kernel
theorem d3_56 : decode prog_101_method_1_code 56 = .ok (.imul, 1) := by decide +kernel
theorem d3_57 : decode prog_101_method_1_code 57 = .ok (.newarray .int, 2) := by decide +kernel
theorem d3_59 : decode prog_101_method_1_code 59 = .ok (.putfield 32, 3) := by decide +kernel
theorem d3_62 : decode prog_101_method_1_code 62 = .ok (.aload_n 0, 1) := by decide +kernel
theorem d3_63 : decode prog_101_method_1_code 63 = .ok (.iconst 2, 1) := by decide +kernel
theorem d3_64 : decode prog_101_method_1_code 64 = .ok (.aload_n 0, 1) := by decide +kernel
theorem d3_65 : decode prog_101_method_1_code 65 = .ok (.getfield 21, 3) := by decide +kernel
theorem d3_68 : decode prog_101_method_1_code 68 = .ok (.imul, 1) := by decide +kernel
theorem d3_69 : decode prog_101_method_1_code 69 = .ok (.newarray .int, 2) := by decide +kernel
theorem d3_71 : decode prog_101_method_1_code 71 = .ok (.putfield 36, 3) := by decide +kernel
theorem d3_74 : decode prog_101_method_1_code 74 = .ok (.aload_n 0, 1) := by decide +kernel
theorem d3_75 : decode prog_101_method_1_code 75 = .ok (.iconst 2, 1) := by decide +kernel
theorem d3_76 : decode prog_101_method_1_code 76 = .ok (.aload_n 0, 1) := by decide +kernel
theorem d3_77 : decode prog_101_method_1_code 77 = .ok (.getfield 21, 3) := by decide +kernel
theorem d3_80 : decode prog_101_method_1_code 80 = .ok (.imul, 1) := by decide +kernel
theorem d3_81 : decode prog_101_method_1_code 81 = .ok (.newarray .int, 2) := by decide +kernel
theorem d3_83 : decode prog_101_method_1_code 83 = .ok (.putfield 39, 3) := by decide +kernel
theorem d3_86 : decode prog_101_method_1_code 86 = .ok (.aload_n 0, 1) := by decide +kernel
theorem d3_87 : decode prog_101_method_1_code 87 = .ok (.aload_n 0, 1) := by decide +kernel
theorem d3_88 : decode prog_101_method_1_code 88 = .ok (.getfield 21, 3) := by decide +kernel
theorem d3_91 : decode prog_101_method_1_code 91 = .ok (.newarray .boolean, 2) := by decide +kernel
theorem d3_93 : decode prog_101_method_1_code 93 = .ok (.putfield 42, 3) := by decide +kernel
theorem d3_96 : decode prog_101_method_1_code 96 = .ok (.iconst 0, 1) := by decide +kernel
theorem d3_97 : decode prog_101_method_1_code 97 = .ok (.istore_n 3, 1) := by decide +kernel
theorem d3_98 : decode prog_101_method_1_code 98 = .ok (.iload_n 3, 1) := by decide +kernel
theorem d3_99 : decode prog_101_method_1_code 99 = .ok (.aload_n 0, 1) := by decide +kernel
theorem d3_100 : decode prog_101_method_1_code 100 = .ok (.getfield 21, 3) := by decide +kernel
theorem d3_103 : decode prog_101_method_1_code 103 = .ok (.if_icmp .ge 58, 3) := by decide +kernel
theorem d3_106 : decode prog_101_method_1_code 106 = .ok (.iload_n 1, 1) := by decide +kernel
theorem d3_107 : decode prog_101_method_1_code 107 = .ok (.iload_n 3, 1) := by decide +kernel
theorem d3_108 : decode prog_101_method_1_code 108 = .ok (.bipush 64, 2) := by decide +kernel
theorem d3_110 : decode prog_101_method_1_code 110 = .ok (.imul, 1) := by decide +kernel
theorem d3_111 : decode prog_101_method_1_code 111 = .ok (.isub, 1) := by decide +kernel
theorem d3_112 : decode prog_101_method_1_code 112 = .ok (.istore 4, 2) := by decide +kernel
theorem d3_114 : decode prog_101_method_1_code 114 = .ok (.iload 4, 2) := by decide +kernel
theorem d3_116 : decode prog_101_method_1_code 116 = .ok (.ifCond .gt 15, 3) := by decide +kernel
theorem d3_131 : decode prog_101_method_1_code 131 = .ok (.iload 4, 2) := by decide +kernel
theorem d3_133 : decode prog_101_method_1_code 133 = .ok (.bipush 64, 2) := by decide +kernel
theorem d3_135 : decode prog_101_method_1_code 135 = .ok (.if_icmp .ge 15, 3) := by decide +kernel
theorem d3_138 : decode prog_101_method_1_code 138 = .ok (.aload_n 0, 1) := by decide +kernel
theorem d3_139 : decode prog_101_method_1_code 139 = .ok (.getfield 25, 3) := by decide +kernel
theorem d3_142 : decode prog_101_method_1_code 142 = .ok (.iload_n 3, 1) := by decide +kernel
theorem d3_143 : decode prog_101_method_1_code 143 = .ok (.ldc2_w 46, 3) := by decide +kernel
theorem d3_146 : decode prog_101_method_1_code 146 = .ok (.iload 4, 2) := by decide +kernel
theorem d3_148 : decode prog_101_method_1_code 148 = .ok (.lshl, 1) := by decide +kernel
theorem d3_149 : decode prog_101_method_1_code 149 = .ok (.lastore, 1) := by decide +kernel
theorem d3_150 : decode prog_101_method_1_code 150 = .ok (.aload_n 0, 1) := by decide +kernel
theorem d3_151 : decode prog_101_method_1_code 151 = .ok (.iload_n 3, 1) := by decide +kernel
theorem d3_152 : decode prog_101_method_1_code 152 = .ok (.invokevirtual 48, 3) := by decide +kernel
theorem d3_155 : decode prog_101_method_1_code 155 = .ok (.iinc 3 1, 3) := by decide +kernel
theorem d3_158 : decode prog_101_method_1_code 158 = .ok (.goto (-60), 3) := by decide +kernel
theorem d3_161 : decode prog_101_method_1_code 161 = .ok (.aload_n 0, 1) := by decide +kernel
theorem d3_162 : decode prog_101_method_1_code 162 = .ok (.getfield 21, 3) := by decide +kernel
theorem d3_165 : decode prog_101_method_1_code 165 = .ok (.iconst 1, 1) := by decide +kernel
theorem d3_166 : decode prog_101_method_1_code 166 = .ok (.isub, 1) := by decide +kernel
theorem d3_167 : decode prog_101_method_1_code 167 = .ok (.istore_n 3, 1) := by decide +kernel
theorem d3_168 : decode prog_101_method_1_code 168 = .ok (.iload_n 3, 1) := by decide +kernel
theorem d3_169 : decode prog_101_method_1_code 169 = .ok (.iconst 1, 1) := by decide +kernel
theorem d3_170 : decode prog_101_method_1_code 170 = .ok (.if_icmp .lt 14, 3) := by decide +kernel
theorem d3_184 : decode prog_101_method_1_code 184 = .ok (.return_, 1) := by decide +kernel
theorem pn3 : plainFor (⟨"com/example/clauseline/clauseline/service/TakenPieces", "<init>", "(I)V"⟩ : MethodName) = true := by first | (apply plainFor_of_name; simp [plainName, overriddenIn]; done) | decide +kernel
def Bini1 : Bdy := (⟨"com/example/clauseline/clauseline/service/TakenPieces", "<init>", "(I)V"⟩, prog_101_method_1_code, 5, none, ({ frames := 4, cells := 6, slots := 9, locals := 67 } : Room))
theorem m_ini1 (Z : State) (a0 : Array Value) (hw : ∀ d ∈ tables_1, d.before a0 Z = true) (h0 : Heap) (a1 : Addr) (p1 : Int32) (hp : 1 ≤ p1.toInt ∧ p1.toInt ≤ 64) :
    Met Bini1 Z a0 h0 #[(.ref a1), (.int p1)] (mem21 a1) (fun v ds => ∃ (a2 a3 a4 a5 a6 a7 : Addr) (q0 : Int64) (z101 z201 z301 : Int32), (Fre (P0 p1.toInt) 0 q0 ∧ Sm (P0 p1.toInt) 0 64 z101.toInt z201.toInt z301.toInt) ∧ Ret none (M1 a1 a2 a3 a4 a5 a6 a7 q0 z101 z201 z301) v ds) := by
  refine Met.of pn3 (ls := #[.val (.ref a1), .val (.int p1), .unset, .unset, .unset]) (fun m => by first | (simp [entryFrame, mkF, argsToLocals, Value.category, Bini1]; done) | rfl) ?_
  refine go_aloadN 1 rfl d3_0 rfl rfl ?_
  refine go_initObj 4 rfl d3_1 rfl (wd hw 14 rfl) (wd hw 15 rfl) (wd hw 16 rfl) rfl (by decide) (by decide) ?_
  refine go_iconst (1 : Int32) 5 rfl d3_4 rfl ?_
  refine go_iloadN 6 rfl d3_5 rfl ?_
  refine go_bipush (64 : Int32) 8 rfl d3_6 rfl ?_
  refine go_iadd 9 rfl d3_8 rfl ?_
  have fa1 : (p1 + (64 : Int32)).toInt = p1.toInt + (64 : Int) := addE rfl rfl (by omega)
  refine go_iconst (1 : Int32) 10 rfl d3_9 rfl ?_
  refine go_isub 11 rfl d3_10 rfl ?_
  have fa2 : ((p1 + (64 : Int32)) - (1 : Int32)).toInt = (p1 + (64 : Int32)).toInt - (1 : Int) := subE rfl rfl (by omega)
  refine go_bipush (64 : Int32) 13 rfl d3_11 rfl ?_
  refine go_idiv 14 rfl d3_13 rfl (by decide) ?_
  have e1_ : (1 : Int32).toInt = 1 := rfl
  have ed := (c_idiv ((p1 + (64 : Int32)) - (1 : Int32)) (64 : Int32) 64 rfl (by decide)).1 (by omega)
  refine go_callS 17 rfl d3_14 (wd hw 17 rfl) (wd hw 6 rfl) (wd hw 3 rfl) (wd hw 7 rfl) (by decide) (m_max Z a0 hw h0 (mem21 a1) (1 : Int32) (((p1 + (64 : Int32)) - (1 : Int32)) / (64 : Int32))) (argsL := [(.int (1 : Int32)), (.int (((p1 + (64 : Int32)) - (1 : Int32)) / (64 : Int32)))]) (rest := []) rfl (ps := [.int, .int]) (by decide +kernel) rfl rfl 0 rfl (by decide) (by decide) (by decide) (by decide) ?_
  rintro _ _ ⟨z9106, rfl, rfl, hz9106, gz9106⟩
  show Go Bini1 Z a0 h0 _ 0 0 (mem21 a1) 17 #[.val (.ref a1), .val (.int p1), .unset, .unset, .unset] [(.int z9106)]
  have kz9106 : z9106.toInt = (1 : Int32).toInt ∨ z9106.toInt = (((p1 + (64 : Int32)) - (1 : Int32)) / (64 : Int32)).toInt := by rcases gz9106 with h | h <;> rw [h] <;> simp
  refine go_istoreN #[.val (.ref a1), .val (.int p1), .val (.int z9106), .unset, .unset] 18 rfl d3_17 rfl rfl ?_
  refine go_aloadN 19 rfl d3_18 rfl rfl ?_
  refine go_iconst (2 : Int32) 20 rfl d3_19 rfl ?_
  refine go_iloadN 21 rfl d3_20 rfl ?_
  refine go_imul 22 rfl d3_21 rfl ?_
  have fa3 : ((2 : Int32) * z9106).toInt = (2 : Int) * z9106.toInt := mulE rfl rfl (by omega)
  refine go_iconst (1 : Int32) 23 rfl d3_22 rfl ?_
  refine go_isub 24 rfl d3_23 rfl ?_
  have fa4 : (((2 : Int32) * z9106) - (1 : Int32)).toInt = ((2 : Int32) * z9106).toInt - (1 : Int) := subE rfl rfl (by omega)
  have ez : z9106 = (1 : Int32) := by
    exact i32_of (k := 1) (by omega) rfl
  have hv : Jvm.Free.JP.Integer_highestOneBit_I.val (((2 : Int32) * z9106) - (1 : Int32)) = (1 : Int32) := by
    subst ez; decide +kernel
  refine go_pureS 27 rfl d3_24 (wd hw 18 rfl) (wd hw 19 rfl) (tab_hob hw) (fun l => Jvm.Free.JP.Integer_highestOneBit_I.law l (((2 : Int32) * z9106) - (1 : Int32))) (by decide) (fun _ => ⟨rfl, trivial⟩) ((congrArg Value.int hv) : (.int (Jvm.Free.JP.Integer_highestOneBit_I.val (((2 : Int32) * z9106) - (1 : Int32))) : Value) = .int (1 : Int32)) (argsL := [(.int (((2 : Int32) * z9106) - (1 : Int32)))]) (rest := [(.ref a1)]) rfl (ps := [.int]) (by decide +kernel) rfl rfl 1 rfl (by decide) (by decide) (by decide) (by decide) ?_
  refine go_put 0 0 30 rfl d3_27 rfl rfl rfl (wd hw 27 rfl) (Or.inr ⟨(wd hw 28 rfl), rfl, rfl⟩) (wd hw 9 rfl) (ty := .int) (by decide) rfl rfl ?_
  refine go_aloadN 31 rfl d3_30 rfl rfl ?_
  refine go_aloadN 32 rfl d3_31 rfl rfl ?_
  refine go_get 0 0 35 rfl d3_32 rfl rfl rfl (wd hw 27 rfl) ?_
  refine go_newarr 37 rfl d3_35 rfl (wd hw 29 rfl) (by decide) 1 (by decide) (by decide) (by decide) (by decide) (fun a2 => ?_)
  refine go_put 0 1 40 rfl d3_37 rfl rfl rfl (wd hw 30 rfl) (Or.inr ⟨(wd hw 31 rfl), rfl, rfl⟩) (wd hw 9 rfl) (ty := (.array .long)) (by decide) rfl rfl ?_
  refine go_aloadN 41 rfl d3_40 rfl rfl ?_
  refine go_aloadN 42 rfl d3_41 rfl rfl ?_
  refine go_get 0 0 45 rfl d3_42 rfl rfl rfl (wd hw 27 rfl) ?_
  refine go_newarr 47 rfl d3_45 rfl (wd hw 29 rfl) (by decide) 1 (by decide) (by decide) (by decide) (by decide) (fun a3 => ?_)
  refine go_put 0 2 50 rfl d3_47 rfl rfl rfl (wd hw 32 rfl) (Or.inr ⟨(wd hw 33 rfl), rfl, rfl⟩) (wd hw 9 rfl) (ty := (.array .long)) (by decide) rfl rfl ?_
  refine go_aloadN 51 rfl d3_50 rfl rfl ?_
  refine go_iconst (2 : Int32) 52 rfl d3_51 rfl ?_
  refine go_aloadN 53 rfl d3_52 rfl rfl ?_
  refine go_get 0 0 56 rfl d3_53 rfl rfl rfl (wd hw 27 rfl) ?_
  refine go_imul 57 rfl d3_56 rfl ?_
  refine go_newarr 59 rfl d3_57 rfl (wd hw 34 rfl) (by decide) 2 (by decide) (by decide) (by decide) (by decide) (fun a4 => ?_)
  refine go_put 0 3 62 rfl d3_59 rfl rfl rfl (wd hw 35 rfl) (Or.inr ⟨(wd hw 36 rfl), rfl, rfl⟩) (wd hw 9 rfl) (ty := (.array .int)) (by decide) rfl rfl ?_
  refine go_aloadN 63 rfl d3_62 rfl rfl ?_
  refine go_iconst (2 : Int32) 64 rfl d3_63 rfl ?_
  refine go_aloadN 65 rfl d3_64 rfl rfl ?_
  refine go_get 0 0 68 rfl d3_65 rfl rfl rfl (wd hw 27 rfl) ?_
  refine go_imul 69 rfl d3_68 rfl ?_
  refine go_newarr 71 rfl d3_69 rfl (wd hw 34 rfl) (by decide) 2 (by decide) (by decide) (by decide) (by decide) (fun a5 => ?_)
  refine go_put 0 4 74 rfl d3_71 rfl rfl rfl (wd hw 37 rfl) (Or.inr ⟨(wd hw 38 rfl), rfl, rfl⟩) (wd hw 9 rfl) (ty := (.array .int)) (by decide) rfl rfl ?_
  refine go_aloadN 75 rfl d3_74 rfl rfl ?_
  refine go_iconst (2 : Int32) 76 rfl d3_75 rfl ?_
  refine go_aloadN 77 rfl d3_76 rfl rfl ?_
  refine go_get 0 0 80 rfl d3_77 rfl rfl rfl (wd hw 27 rfl) ?_
  refine go_imul 81 rfl d3_80 rfl ?_
  refine go_newarr 83 rfl d3_81 rfl (wd hw 34 rfl) (by decide) 2 (by decide) (by decide) (by decide) (by decide) (fun a6 => ?_)
  refine go_put 0 5 86 rfl d3_83 rfl rfl rfl (wd hw 39 rfl) (Or.inr ⟨(wd hw 40 rfl), rfl, rfl⟩) (wd hw 9 rfl) (ty := (.array .int)) (by decide) rfl rfl ?_
  refine go_aloadN 87 rfl d3_86 rfl rfl ?_
  refine go_aloadN 88 rfl d3_87 rfl rfl ?_
  refine go_get 0 0 91 rfl d3_88 rfl rfl rfl (wd hw 27 rfl) ?_
  refine go_newarr 93 rfl d3_91 rfl (wd hw 41 rfl) (by decide) 1 (by decide) (by decide) (by decide) (by decide) (fun a7 => ?_)
  refine go_put 0 6 96 rfl d3_93 rfl rfl rfl (wd hw 42 rfl) (Or.inr ⟨(wd hw 43 rfl), rfl, rfl⟩) (wd hw 9 rfl) (ty := (.array .boolean)) (by decide) rfl rfl ?_
  refine go_iconst (0 : Int32) 97 rfl d3_96 rfl ?_
  refine go_istoreN #[.val (.ref a1), .val (.int p1), .val (.int z9106), .val (.int (0 : Int32)), .unset] 98 rfl d3_97 rfl rfl ?_
  refine go_iloadN 99 rfl d3_98 rfl ?_
  refine go_aloadN 100 rfl d3_99 rfl rfl ?_
  refine go_get 0 0 103 rfl d3_100 rfl rfl rfl (wd hw 27 rfl) ?_
  refine go_icmp 161 106 rfl (by decide) rfl d3_103 rfl (fun (hc103 : (1 : Int) ≤ (0 : Int)) => absurd hc103 (by decide)) (fun (hc103 : ¬ ((1 : Int) ≤ (0 : Int))) => ?_)
  refine go_iloadN 107 rfl d3_106 rfl ?_
  refine go_iloadN 108 rfl d3_107 rfl ?_
  refine go_bipush (64 : Int32) 110 rfl d3_108 rfl ?_
  refine go_imul 111 rfl d3_110 rfl ?_
  refine go_isub 112 rfl d3_111 rfl ?_
  have fa5 : (p1 - (0 : Int32)).toInt = p1.toInt - (0 : Int) := subE rfl rfl (by omega)
  refine go_istore #[.val (.ref a1), .val (.int p1), .val (.int z9106), .val (.int (0 : Int32)), .val (.int (p1 - (0 : Int32)))] 114 rfl d3_112 rfl rfl ?_
  have jn0 : ∀ q0 : Int64, Fre (P0 p1.toInt) 0 q0 → Go Bini1 Z a0 h0 (fun v ds => ∃ (a2 a3 a4 a5 a6 a7 : Addr) (q0 : Int64) (z101 z201 z301 : Int32), (Fre (P0 p1.toInt) 0 q0 ∧ Sm (P0 p1.toInt) 0 64 z101.toInt z201.toInt z301.toInt) ∧ Ret none (M1 a1 a2 a3 a4 a5 a6 a7 q0 z101 z201 z301) v ds) 6 9 (M1 a1 a2 a3 a4 a5 a6 a7 q0 (0 : Int32) (0 : Int32) (0 : Int32)) 150 #[.val (.ref a1), .val (.int p1), .val (.int z9106), .val (.int (0 : Int32)), .val (.int (p1 - (0 : Int32)))] [] := by
    intro q0 f0
    refine go_aloadN 151 rfl d3_150 rfl rfl ?_
    refine go_iloadN 152 rfl d3_151 rfl ?_
    refine go_callP (host := "") 155 rfl d3_152 (Or.inl (wd hw 45 rfl)) (wd hw 46 rfl) (wd hw 47 rfl) (wd hw 9 rfl) (wd hw 10 rfl) (wd hw 48 rfl) (by decide) (Mo.exa (i := 0) rfl) (m_sum Z a0 hw h0 (P0 p1.toInt) a1 a2 a3 a4 a5 a6 a7 [(.long q0)] [(.long (0 : Int64))] [(.int (0 : Int32)), (.int (0 : Int32))] [(.int (0 : Int32)), (.int (0 : Int32))] [(.int (0 : Int32)), (.int (0 : Int32))] [(.int (0 : Int32))] (0 : Int32) (1 : Int32) (1 : Int32) q0 0 0 64 rfl rfl (by decide) f0 rfl (by decide) (by decide) (by decide) (by decide) (lbe rfl) (lbe rfl) (lbe rfl)) (argsL := [(.int (0 : Int32))]) (rest := []) rfl (ps := [.int]) (by decide +kernel) rfl rfl 0 rfl (by decide) (by decide) (by decide) (by decide) ?_
    rintro _ _ ⟨z101, z201, z301, s1, rfl, rfl⟩
    show Go Bini1 Z a0 h0 _ 6 9 (M1 a1 a2 a3 a4 a5 a6 a7 q0 z101 z201 z301) 155 #[.val (.ref a1), .val (.int p1), .val (.int z9106), .val (.int (0 : Int32)), .val (.int (p1 - (0 : Int32)))] []
    refine go_iinc #[.val (.ref a1), .val (.int p1), .val (.int z9106), .val (.int (1 : Int32)), .val (.int (p1 - (0 : Int32)))] 158 rfl d3_155 rfl rfl ?_
    refine go_goto 98 (by decide) rfl d3_158 ?_
    refine go_iloadN 99 rfl d3_98 rfl ?_
    refine go_aloadN 100 rfl d3_99 rfl rfl ?_
    refine go_get 0 0 103 rfl d3_100 rfl rfl rfl (wd hw 27 rfl) ?_
    refine go_icmp 161 106 rfl (by decide) rfl d3_103 rfl (fun (hc103 : (1 : Int) ≤ (1 : Int)) => ?_) (fun (hc103 : ¬ ((1 : Int) ≤ (1 : Int))) => absurd hc103 (by decide))
    refine go_aloadN 162 rfl d3_161 rfl rfl ?_
    refine go_get 0 0 165 rfl d3_162 rfl rfl rfl (wd hw 27 rfl) ?_
    refine go_iconst (1 : Int32) 166 rfl d3_165 rfl ?_
    refine go_isub 167 rfl d3_166 rfl ?_
    refine go_istoreN #[.val (.ref a1), .val (.int p1), .val (.int z9106), .val (.int (0 : Int32)), .val (.int (p1 - (0 : Int32)))] 168 rfl d3_167 rfl rfl ?_
    refine go_iloadN 169 rfl d3_168 rfl ?_
    refine go_iconst (1 : Int32) 170 rfl d3_169 rfl ?_
    refine go_icmp 184 173 rfl (by decide) rfl d3_170 rfl (fun (hc170 : (0 : Int) < (1 : Int)) => ?_) (fun (hc170 : ¬ ((0 : Int) < (1 : Int))) => absurd hc170 (by decide))
    exact go_return d3_184 rfl rfl (by decide) (by decide) ⟨_, _, _, _, _, _, _, _, _, _, ⟨f0, s1⟩, rfl, rfl⟩
  have fp0 : (p1 - (0 : Int32)).toInt = p1.toInt - 0 := by rw [show p1 - (0 : Int32) = p1 from by simp]; omega
  refine go_iload 116 rfl d3_114 rfl ?_
  refine go_if 131 119 rfl (by decide) rfl d3_116 rfl (fun (hc : 0 < (p1 - (0 : Int32)).toInt) => ?_) (fun (hc : ¬ (0 < (p1 - (0 : Int32)).toInt)) => absurd hc (by omega))
  refine go_iload 133 rfl d3_131 rfl ?_
  refine go_bipush (64 : Int32) 135 rfl d3_133 rfl ?_
  refine go_icmp 150 138 rfl (by decide) rfl d3_135 rfl (fun (hg0 : (64 : Int) ≤ (p1 - (0 : Int32)).toInt) => ?_) (fun (hg0 : ¬ ((64 : Int) ≤ (p1 - (0 : Int32)).toInt)) => ?_)
  · exact jn0 _ (fre_free (by omega))
  · refine go_aloadN 139 rfl d3_138 rfl rfl ?_
    refine go_get 0 1 142 rfl d3_139 rfl rfl rfl (wd hw 30 rfl) ?_
    refine go_iloadN 143 rfl d3_142 rfl ?_
    refine go_ldc2 (v := (-1 : Int64)) 146 rfl d3_143 (wd hw 44 rfl) ?_
    refine go_iload 148 rfl d3_146 rfl ?_
    refine go_lshl 149 rfl d3_148 rfl ?_
    refine go_lastore 1 150 rfl d3_149 rfl rfl (by decide) (lbe rfl) ?_
    show Go Bini1 Z a0 h0 _ 6 9 (M1 a1 a2 a3 a4 a5 a6 a7 ((-1 : Int64) <<< ((p1 - (0 : Int32)) &&& 0x3f).toInt64) (0 : Int32) (0 : Int32) (0 : Int32)) 150 #[.val (.ref a1), .val (.int p1), .val (.int z9106), .val (.int (0 : Int32)), .val (.int (p1 - (0 : Int32)))] []
    exact jn0 _ (fre_part (by omega) (by omega) (by omega))
theorem d3_173 : decode prog_101_method_1_code 173 = .ok (.aload_n 0, 1) := by decide +kernel
theorem d3_174 : decode prog_101_method_1_code 174 = .ok (.iload_n 3, 1) := by decide +kernel
theorem d3_175 : decode prog_101_method_1_code 175 = .ok (.invokevirtual 52, 3) := by decide +kernel
theorem d3_178 : decode prog_101_method_1_code 178 = .ok (.iinc 3 (-1), 3) := by decide +kernel
theorem d3_181 : decode prog_101_method_1_code 181 = .ok (.goto (-13), 3) := by decide +kernel
def Bini2 : Bdy := (⟨"com/example/clauseline/clauseline/service/TakenPieces", "<init>", "(I)V"⟩, prog_101_method_1_code, 5, none, ({ frames := 4, cells := 6, slots := 18, locals := 67 } : Room))
theorem m_ini2 (Z : State) (a0 : Array Value) (hw : ∀ d ∈ tables_1, d.before a0 Z = true) (h0 : Heap) (a1 : Addr) (p1 : Int32) (hp : 65 ≤ p1.toInt ∧ p1.toInt ≤ 128) :
    Met Bini2 Z a0 h0 #[(.ref a1), (.int p1)] (mem21 a1) (fun v ds => ∃ (a2 a3 a4 a5 a6 a7 : Addr) (q0 q1 : Int64) (z101 z201 z301 z102 z202 z302 z103 z203 z303 : Int32), (Fre (P0 p1.toInt) 0 q0 ∧ Fre (P0 p1.toInt) 1 q1 ∧ Sm (P0 p1.toInt) 0 128 z101.toInt z201.toInt z301.toInt ∧ Sm (P0 p1.toInt) 0 64 z102.toInt z202.toInt z302.toInt ∧ Sm (P0 p1.toInt) 64 128 z103.toInt z203.toInt z303.toInt) ∧ Ret none (M2 a1 a2 a3 a4 a5 a6 a7 q0 q1 z101 z201 z301 z102 z202 z302 z103 z203 z303 (0 : Int32)) v ds) := by
  refine Met.of pn3 (ls := #[.val (.ref a1), .val (.int p1), .unset, .unset, .unset]) (fun m => by first | (simp [entryFrame, mkF, argsToLocals, Value.category, Bini2]; done) | rfl) ?_
  refine go_aloadN 1 rfl d3_0 rfl rfl ?_
  refine go_initObj 4 rfl d3_1 rfl (wd hw 14 rfl) (wd hw 15 rfl) (wd hw 16 rfl) rfl (by decide) (by decide) ?_
  refine go_iconst (1 : Int32) 5 rfl d3_4 rfl ?_
  refine go_iloadN 6 rfl d3_5 rfl ?_
  refine go_bipush (64 : Int32) 8 rfl d3_6 rfl ?_
  refine go_iadd 9 rfl d3_8 rfl ?_
  have fa1 : (p1 + (64 : Int32)).toInt = p1.toInt + (64 : Int) := addE rfl rfl (by omega)
  refine go_iconst (1 : Int32) 10 rfl d3_9 rfl ?_
  refine go_isub 11 rfl d3_10 rfl ?_
  have fa2 : ((p1 + (64 : Int32)) - (1 : Int32)).toInt = (p1 + (64 : Int32)).toInt - (1 : Int) := subE rfl rfl (by omega)
  refine go_bipush (64 : Int32) 13 rfl d3_11 rfl ?_
  refine go_idiv 14 rfl d3_13 rfl (by decide) ?_
  have e1_ : (1 : Int32).toInt = 1 := rfl
  have ed := (c_idiv ((p1 + (64 : Int32)) - (1 : Int32)) (64 : Int32) 64 rfl (by decide)).1 (by omega)
  refine go_callS 17 rfl d3_14 (wd hw 17 rfl) (wd hw 6 rfl) (wd hw 3 rfl) (wd hw 7 rfl) (by decide) (m_max Z a0 hw h0 (mem21 a1) (1 : Int32) (((p1 + (64 : Int32)) - (1 : Int32)) / (64 : Int32))) (argsL := [(.int (1 : Int32)), (.int (((p1 + (64 : Int32)) - (1 : Int32)) / (64 : Int32)))]) (rest := []) rfl (ps := [.int, .int]) (by decide +kernel) rfl rfl 0 rfl (by decide) (by decide) (by decide) (by decide) ?_
  rintro _ _ ⟨z9107, rfl, rfl, hz9107, gz9107⟩
  show Go Bini2 Z a0 h0 _ 0 0 (mem21 a1) 17 #[.val (.ref a1), .val (.int p1), .unset, .unset, .unset] [(.int z9107)]
  have kz9107 : z9107.toInt = (1 : Int32).toInt ∨ z9107.toInt = (((p1 + (64 : Int32)) - (1 : Int32)) / (64 : Int32)).toInt := by rcases gz9107 with h | h <;> rw [h] <;> simp
  refine go_istoreN #[.val (.ref a1), .val (.int p1), .val (.int z9107), .unset, .unset] 18 rfl d3_17 rfl rfl ?_
  refine go_aloadN 19 rfl d3_18 rfl rfl ?_
  refine go_iconst (2 : Int32) 20 rfl d3_19 rfl ?_
  refine go_iloadN 21 rfl d3_20 rfl ?_
  refine go_imul 22 rfl d3_21 rfl ?_
  have fa3 : ((2 : Int32) * z9107).toInt = (2 : Int) * z9107.toInt := mulE rfl rfl (by omega)
  refine go_iconst (1 : Int32) 23 rfl d3_22 rfl ?_
  refine go_isub 24 rfl d3_23 rfl ?_
  have fa4 : (((2 : Int32) * z9107) - (1 : Int32)).toInt = ((2 : Int32) * z9107).toInt - (1 : Int) := subE rfl rfl (by omega)
  have ez : z9107 = (2 : Int32) := by
    exact i32_of (k := 2) (by omega) rfl
  have hv : Jvm.Free.JP.Integer_highestOneBit_I.val (((2 : Int32) * z9107) - (1 : Int32)) = (2 : Int32) := by
    subst ez; decide +kernel
  refine go_pureS 27 rfl d3_24 (wd hw 18 rfl) (wd hw 19 rfl) (tab_hob hw) (fun l => Jvm.Free.JP.Integer_highestOneBit_I.law l (((2 : Int32) * z9107) - (1 : Int32))) (by decide) (fun _ => ⟨rfl, trivial⟩) ((congrArg Value.int hv) : (.int (Jvm.Free.JP.Integer_highestOneBit_I.val (((2 : Int32) * z9107) - (1 : Int32))) : Value) = .int (2 : Int32)) (argsL := [(.int (((2 : Int32) * z9107) - (1 : Int32)))]) (rest := [(.ref a1)]) rfl (ps := [.int]) (by decide +kernel) rfl rfl 1 rfl (by decide) (by decide) (by decide) (by decide) ?_
  refine go_put 0 0 30 rfl d3_27 rfl rfl rfl (wd hw 27 rfl) (Or.inr ⟨(wd hw 28 rfl), rfl, rfl⟩) (wd hw 9 rfl) (ty := .int) (by decide) rfl rfl ?_
  refine go_aloadN 31 rfl d3_30 rfl rfl ?_
  refine go_aloadN 32 rfl d3_31 rfl rfl ?_
  refine go_get 0 0 35 rfl d3_32 rfl rfl rfl (wd hw 27 rfl) ?_
  refine go_newarr 37 rfl d3_35 rfl (wd hw 29 rfl) (by decide) 2 (by decide) (by decide) (by decide) (by decide) (fun a2 => ?_)
  refine go_put 0 1 40 rfl d3_37 rfl rfl rfl (wd hw 30 rfl) (Or.inr ⟨(wd hw 31 rfl), rfl, rfl⟩) (wd hw 9 rfl) (ty := (.array .long)) (by decide) rfl rfl ?_
  refine go_aloadN 41 rfl d3_40 rfl rfl ?_
  refine go_aloadN 42 rfl d3_41 rfl rfl ?_
  refine go_get 0 0 45 rfl d3_42 rfl rfl rfl (wd hw 27 rfl) ?_
  refine go_newarr 47 rfl d3_45 rfl (wd hw 29 rfl) (by decide) 2 (by decide) (by decide) (by decide) (by decide) (fun a3 => ?_)
  refine go_put 0 2 50 rfl d3_47 rfl rfl rfl (wd hw 32 rfl) (Or.inr ⟨(wd hw 33 rfl), rfl, rfl⟩) (wd hw 9 rfl) (ty := (.array .long)) (by decide) rfl rfl ?_
  refine go_aloadN 51 rfl d3_50 rfl rfl ?_
  refine go_iconst (2 : Int32) 52 rfl d3_51 rfl ?_
  refine go_aloadN 53 rfl d3_52 rfl rfl ?_
  refine go_get 0 0 56 rfl d3_53 rfl rfl rfl (wd hw 27 rfl) ?_
  refine go_imul 57 rfl d3_56 rfl ?_
  refine go_newarr 59 rfl d3_57 rfl (wd hw 34 rfl) (by decide) 4 (by decide) (by decide) (by decide) (by decide) (fun a4 => ?_)
  refine go_put 0 3 62 rfl d3_59 rfl rfl rfl (wd hw 35 rfl) (Or.inr ⟨(wd hw 36 rfl), rfl, rfl⟩) (wd hw 9 rfl) (ty := (.array .int)) (by decide) rfl rfl ?_
  refine go_aloadN 63 rfl d3_62 rfl rfl ?_
  refine go_iconst (2 : Int32) 64 rfl d3_63 rfl ?_
  refine go_aloadN 65 rfl d3_64 rfl rfl ?_
  refine go_get 0 0 68 rfl d3_65 rfl rfl rfl (wd hw 27 rfl) ?_
  refine go_imul 69 rfl d3_68 rfl ?_
  refine go_newarr 71 rfl d3_69 rfl (wd hw 34 rfl) (by decide) 4 (by decide) (by decide) (by decide) (by decide) (fun a5 => ?_)
  refine go_put 0 4 74 rfl d3_71 rfl rfl rfl (wd hw 37 rfl) (Or.inr ⟨(wd hw 38 rfl), rfl, rfl⟩) (wd hw 9 rfl) (ty := (.array .int)) (by decide) rfl rfl ?_
  refine go_aloadN 75 rfl d3_74 rfl rfl ?_
  refine go_iconst (2 : Int32) 76 rfl d3_75 rfl ?_
  refine go_aloadN 77 rfl d3_76 rfl rfl ?_
  refine go_get 0 0 80 rfl d3_77 rfl rfl rfl (wd hw 27 rfl) ?_
  refine go_imul 81 rfl d3_80 rfl ?_
  refine go_newarr 83 rfl d3_81 rfl (wd hw 34 rfl) (by decide) 4 (by decide) (by decide) (by decide) (by decide) (fun a6 => ?_)
  refine go_put 0 5 86 rfl d3_83 rfl rfl rfl (wd hw 39 rfl) (Or.inr ⟨(wd hw 40 rfl), rfl, rfl⟩) (wd hw 9 rfl) (ty := (.array .int)) (by decide) rfl rfl ?_
  refine go_aloadN 87 rfl d3_86 rfl rfl ?_
  refine go_aloadN 88 rfl d3_87 rfl rfl ?_
  refine go_get 0 0 91 rfl d3_88 rfl rfl rfl (wd hw 27 rfl) ?_
  refine go_newarr 93 rfl d3_91 rfl (wd hw 41 rfl) (by decide) 2 (by decide) (by decide) (by decide) (by decide) (fun a7 => ?_)
  refine go_put 0 6 96 rfl d3_93 rfl rfl rfl (wd hw 42 rfl) (Or.inr ⟨(wd hw 43 rfl), rfl, rfl⟩) (wd hw 9 rfl) (ty := (.array .boolean)) (by decide) rfl rfl ?_
  refine go_iconst (0 : Int32) 97 rfl d3_96 rfl ?_
  refine go_istoreN #[.val (.ref a1), .val (.int p1), .val (.int z9107), .val (.int (0 : Int32)), .unset] 98 rfl d3_97 rfl rfl ?_
  refine go_iloadN 99 rfl d3_98 rfl ?_
  refine go_aloadN 100 rfl d3_99 rfl rfl ?_
  refine go_get 0 0 103 rfl d3_100 rfl rfl rfl (wd hw 27 rfl) ?_
  refine go_icmp 161 106 rfl (by decide) rfl d3_103 rfl (fun (hc103 : (2 : Int) ≤ (0 : Int)) => absurd hc103 (by decide)) (fun (hc103 : ¬ ((2 : Int) ≤ (0 : Int))) => ?_)
  refine go_iloadN 107 rfl d3_106 rfl ?_
  refine go_iloadN 108 rfl d3_107 rfl ?_
  refine go_bipush (64 : Int32) 110 rfl d3_108 rfl ?_
  refine go_imul 111 rfl d3_110 rfl ?_
  refine go_isub 112 rfl d3_111 rfl ?_
  have fa5 : (p1 - (0 : Int32)).toInt = p1.toInt - (0 : Int) := subE rfl rfl (by omega)
  refine go_istore #[.val (.ref a1), .val (.int p1), .val (.int z9107), .val (.int (0 : Int32)), .val (.int (p1 - (0 : Int32)))] 114 rfl d3_112 rfl rfl ?_
  have jn0 : ∀ q0 : Int64, Fre (P0 p1.toInt) 0 q0 → Go Bini2 Z a0 h0 (fun v ds => ∃ (a2 a3 a4 a5 a6 a7 : Addr) (q0 q1 : Int64) (z101 z201 z301 z102 z202 z302 z103 z203 z303 : Int32), (Fre (P0 p1.toInt) 0 q0 ∧ Fre (P0 p1.toInt) 1 q1 ∧ Sm (P0 p1.toInt) 0 128 z101.toInt z201.toInt z301.toInt ∧ Sm (P0 p1.toInt) 0 64 z102.toInt z202.toInt z302.toInt ∧ Sm (P0 p1.toInt) 64 128 z103.toInt z203.toInt z303.toInt) ∧ Ret none (M2 a1 a2 a3 a4 a5 a6 a7 q0 q1 z101 z201 z301 z102 z202 z302 z103 z203 z303 (0 : Int32)) v ds) 6 18 (M2 a1 a2 a3 a4 a5 a6 a7 q0 (0 : Int64) (0 : Int32) (0 : Int32) (0 : Int32) (0 : Int32) (0 : Int32) (0 : Int32) (0 : Int32) (0 : Int32) (0 : Int32) (0 : Int32)) 150 #[.val (.ref a1), .val (.int p1), .val (.int z9107), .val (.int (0 : Int32)), .val (.int (p1 - (0 : Int32)))] [] := by
    intro q0 f0
    refine go_aloadN 151 rfl d3_150 rfl rfl ?_
    refine go_iloadN 152 rfl d3_151 rfl ?_
    refine go_callP (host := "") 155 rfl d3_152 (Or.inl (wd hw 45 rfl)) (wd hw 46 rfl) (wd hw 47 rfl) (wd hw 9 rfl) (wd hw 10 rfl) (wd hw 48 rfl) (by decide) (Mo.exa (i := 0) rfl) (m_sum Z a0 hw h0 (P0 p1.toInt) a1 a2 a3 a4 a5 a6 a7 [(.long q0), (.long (0 : Int64))] [(.long (0 : Int64)), (.long (0 : Int64))] [(.int (0 : Int32)), (.int (0 : Int32)), (.int (0 : Int32)), (.int (0 : Int32))] [(.int (0 : Int32)), (.int (0 : Int32)), (.int (0 : Int32)), (.int (0 : Int32))] [(.int (0 : Int32)), (.int (0 : Int32)), (.int (0 : Int32)), (.int (0 : Int32))] [(.int (0 : Int32)), (.int (0 : Int32))] (0 : Int32) (2 : Int32) (2 : Int32) q0 0 0 64 rfl rfl (by decide) f0 rfl (by decide) (by decide) (by decide) (by decide) (lbe rfl) (lbe rfl) (lbe rfl)) (argsL := [(.int (0 : Int32))]) (rest := []) rfl (ps := [.int]) (by decide +kernel) rfl rfl 0 rfl (by decide) (by decide) (by decide) (by decide) ?_
    rintro _ _ ⟨z102, z202, z302, s2, rfl, rfl⟩
    show Go Bini2 Z a0 h0 _ 6 18 (M2 a1 a2 a3 a4 a5 a6 a7 q0 (0 : Int64) (0 : Int32) (0 : Int32) (0 : Int32) z102 z202 z302 (0 : Int32) (0 : Int32) (0 : Int32) (0 : Int32)) 155 #[.val (.ref a1), .val (.int p1), .val (.int z9107), .val (.int (0 : Int32)), .val (.int (p1 - (0 : Int32)))] []
    refine go_iinc #[.val (.ref a1), .val (.int p1), .val (.int z9107), .val (.int (1 : Int32)), .val (.int (p1 - (0 : Int32)))] 158 rfl d3_155 rfl rfl ?_
    refine go_goto 98 (by decide) rfl d3_158 ?_
    refine go_iloadN 99 rfl d3_98 rfl ?_
    refine go_aloadN 100 rfl d3_99 rfl rfl ?_
    refine go_get 0 0 103 rfl d3_100 rfl rfl rfl (wd hw 27 rfl) ?_
    refine go_icmp 161 106 rfl (by decide) rfl d3_103 rfl (fun (hc103 : (2 : Int) ≤ (1 : Int)) => absurd hc103 (by decide)) (fun (hc103 : ¬ ((2 : Int) ≤ (1 : Int))) => ?_)
    refine go_iloadN 107 rfl d3_106 rfl ?_
    refine go_iloadN 108 rfl d3_107 rfl ?_
    refine go_bipush (64 : Int32) 110 rfl d3_108 rfl ?_
    refine go_imul 111 rfl d3_110 rfl ?_
    refine go_isub 112 rfl d3_111 rfl ?_
    have fa6 : (p1 - (64 : Int32)).toInt = p1.toInt - (64 : Int) := subE rfl rfl (by omega)
    refine go_istore #[.val (.ref a1), .val (.int p1), .val (.int z9107), .val (.int (1 : Int32)), .val (.int (p1 - (64 : Int32)))] 114 rfl d3_112 rfl rfl ?_
    have jn1 : ∀ q1 : Int64, Fre (P0 p1.toInt) 1 q1 → Go Bini2 Z a0 h0 (fun v ds => ∃ (a2 a3 a4 a5 a6 a7 : Addr) (q0 q1 : Int64) (z101 z201 z301 z102 z202 z302 z103 z203 z303 : Int32), (Fre (P0 p1.toInt) 0 q0 ∧ Fre (P0 p1.toInt) 1 q1 ∧ Sm (P0 p1.toInt) 0 128 z101.toInt z201.toInt z301.toInt ∧ Sm (P0 p1.toInt) 0 64 z102.toInt z202.toInt z302.toInt ∧ Sm (P0 p1.toInt) 64 128 z103.toInt z203.toInt z303.toInt) ∧ Ret none (M2 a1 a2 a3 a4 a5 a6 a7 q0 q1 z101 z201 z301 z102 z202 z302 z103 z203 z303 (0 : Int32)) v ds) 6 18 (M2 a1 a2 a3 a4 a5 a6 a7 q0 q1 (0 : Int32) (0 : Int32) (0 : Int32) z102 z202 z302 (0 : Int32) (0 : Int32) (0 : Int32) (0 : Int32)) 150 #[.val (.ref a1), .val (.int p1), .val (.int z9107), .val (.int (1 : Int32)), .val (.int (p1 - (64 : Int32)))] [] := by
      intro q1 f1
      refine go_aloadN 151 rfl d3_150 rfl rfl ?_
      refine go_iloadN 152 rfl d3_151 rfl ?_
      refine go_callP (host := "") 155 rfl d3_152 (Or.inl (wd hw 45 rfl)) (wd hw 46 rfl) (wd hw 47 rfl) (wd hw 9 rfl) (wd hw 10 rfl) (wd hw 48 rfl) (by decide) (Mo.exa (i := 0) rfl) (m_sum Z a0 hw h0 (P0 p1.toInt) a1 a2 a3 a4 a5 a6 a7 [(.long q0), (.long q1)] [(.long (0 : Int64)), (.long (0 : Int64))] [(.int (0 : Int32)), (.int (0 : Int32)), (.int z102), (.int (0 : Int32))] [(.int (0 : Int32)), (.int (0 : Int32)), (.int z202), (.int (0 : Int32))] [(.int (0 : Int32)), (.int (0 : Int32)), (.int z302), (.int (0 : Int32))] [(.int (0 : Int32)), (.int (0 : Int32))] (1 : Int32) (2 : Int32) (3 : Int32) q1 1 64 128 rfl rfl (by decide) f1 rfl (by decide) (by decide) (by decide) (by decide) (lbe rfl) (lbe rfl) (lbe rfl)) (argsL := [(.int (1 : Int32))]) (rest := []) rfl (ps := [.int]) (by decide +kernel) rfl rfl 0 rfl (by decide) (by decide) (by decide) (by decide) ?_
      rintro _ _ ⟨z103, z203, z303, s3, rfl, rfl⟩
      show Go Bini2 Z a0 h0 _ 6 18 (M2 a1 a2 a3 a4 a5 a6 a7 q0 q1 (0 : Int32) (0 : Int32) (0 : Int32) z102 z202 z302 z103 z203 z303 (0 : Int32)) 155 #[.val (.ref a1), .val (.int p1), .val (.int z9107), .val (.int (1 : Int32)), .val (.int (p1 - (64 : Int32)))] []
      refine go_iinc #[.val (.ref a1), .val (.int p1), .val (.int z9107), .val (.int (2 : Int32)), .val (.int (p1 - (64 : Int32)))] 158 rfl d3_155 rfl rfl ?_
      refine go_goto 98 (by decide) rfl d3_158 ?_
      refine go_iloadN 99 rfl d3_98 rfl ?_
      refine go_aloadN 100 rfl d3_99 rfl rfl ?_
      refine go_get 0 0 103 rfl d3_100 rfl rfl rfl (wd hw 27 rfl) ?_
      refine go_icmp 161 106 rfl (by decide) rfl d3_103 rfl (fun (hc103 : (2 : Int) ≤ (2 : Int)) => ?_) (fun (hc103 : ¬ ((2 : Int) ≤ (2 : Int))) => absurd hc103 (by decide))
      refine go_aloadN 162 rfl d3_161 rfl rfl ?_
      refine go_get 0 0 165 rfl d3_162 rfl rfl rfl (wd hw 27 rfl) ?_
      refine go_iconst (1 : Int32) 166 rfl d3_165 rfl ?_
      refine go_isub 167 rfl d3_166 rfl ?_
      refine go_istoreN #[.val (.ref a1), .val (.int p1), .val (.int z9107), .val (.int (1 : Int32)), .val (.int (p1 - (64 : Int32)))] 168 rfl d3_167 rfl rfl ?_
      refine go_iloadN 169 rfl d3_168 rfl ?_
      refine go_iconst (1 : Int32) 170 rfl d3_169 rfl ?_
      refine go_icmp 184 173 rfl (by decide) rfl d3_170 rfl (fun (hc170 : (1 : Int) < (1 : Int)) => absurd hc170 (by decide)) (fun (hc170 : ¬ ((1 : Int) < (1 : Int))) => ?_)
      refine go_aloadN 174 rfl d3_173 rfl rfl ?_
      refine go_iloadN 175 rfl d3_174 rfl ?_
      refine go_callP (host := "") 178 rfl d3_175 (Or.inl (wd hw 92 rfl)) (wd hw 93 rfl) (wd hw 94 rfl) (wd hw 9 rfl) (wd hw 10 rfl) (wd hw 95 rfl) (by decide) (Mo.exa (i := 0) rfl) (m_mrg2_1 Z a0 hw h0 (P0 p1.toInt) a1 a2 a3 a4 a5 a6 a7 q0 q1 (0 : Int32) (0 : Int32) (0 : Int32) z102 z202 z302 z103 z203 z303 (0 : Int32) s2 s3) (argsL := [(.int (1 : Int32))]) (rest := []) rfl (ps := [.int]) (by decide +kernel) rfl rfl 0 rfl (by decide) (by decide) (by decide) (by decide) ?_
      rintro _ _ ⟨z763, z764, z765, hz763, rfl, rfl⟩
      show Go Bini2 Z a0 h0 _ 6 18 (M2 a1 a2 a3 a4 a5 a6 a7 q0 q1 z763 z764 z765 z102 z202 z302 z103 z203 z303 (0 : Int32)) 178 #[.val (.ref a1), .val (.int p1), .val (.int z9107), .val (.int (1 : Int32)), .val (.int (p1 - (64 : Int32)))] []
      refine go_iinc #[.val (.ref a1), .val (.int p1), .val (.int z9107), .val (.int (0 : Int32)), .val (.int (p1 - (64 : Int32)))] 181 rfl d3_178 rfl rfl ?_
      refine go_goto 168 (by decide) rfl d3_181 ?_
      refine go_iloadN 169 rfl d3_168 rfl ?_
      refine go_iconst (1 : Int32) 170 rfl d3_169 rfl ?_
      refine go_icmp 184 173 rfl (by decide) rfl d3_170 rfl (fun (hc170 : (0 : Int) < (1 : Int)) => ?_) (fun (hc170 : ¬ ((0 : Int) < (1 : Int))) => absurd hc170 (by decide))
      exact go_return d3_184 rfl rfl (by decide) (by decide) ⟨_, _, _, _, _, _, _, _, _, _, _, _, _, _, _, _, _, ⟨f0, f1, hz763, s2, s3⟩, rfl, rfl⟩
    have fp1 : (p1 - (64 : Int32)).toInt = p1.toInt - 64 := by omega
    refine go_iload 116 rfl d3_114 rfl ?_
    refine go_if 131 119 rfl (by decide) rfl d3_116 rfl (fun (hc : 0 < (p1 - (64 : Int32)).toInt) => ?_) (fun (hc : ¬ (0 < (p1 - (64 : Int32)).toInt)) => absurd hc (by omega))
    refine go_iload 133 rfl d3_131 rfl ?_
    refine go_bipush (64 : Int32) 135 rfl d3_133 rfl ?_
    refine go_icmp 150 138 rfl (by decide) rfl d3_135 rfl (fun (hg1 : (64 : Int) ≤ (p1 - (64 : Int32)).toInt) => ?_) (fun (hg1 : ¬ ((64 : Int) ≤ (p1 - (64 : Int32)).toInt)) => ?_)
    · exact jn1 _ (fre_free (by omega))
    · refine go_aloadN 139 rfl d3_138 rfl rfl ?_
      refine go_get 0 1 142 rfl d3_139 rfl rfl rfl (wd hw 30 rfl) ?_
      refine go_iloadN 143 rfl d3_142 rfl ?_
      refine go_ldc2 (v := (-1 : Int64)) 146 rfl d3_143 (wd hw 44 rfl) ?_
      refine go_iload 148 rfl d3_146 rfl ?_
      refine go_lshl 149 rfl d3_148 rfl ?_
      refine go_lastore 1 150 rfl d3_149 rfl rfl (by decide) (lbe rfl) ?_
      show Go Bini2 Z a0 h0 _ 6 18 (M2 a1 a2 a3 a4 a5 a6 a7 q0 ((-1 : Int64) <<< ((p1 - (64 : Int32)) &&& 0x3f).toInt64) (0 : Int32) (0 : Int32) (0 : Int32) z102 z202 z302 (0 : Int32) (0 : Int32) (0 : Int32) (0 : Int32)) 150 #[.val (.ref a1), .val (.int p1), .val (.int z9107), .val (.int (1 : Int32)), .val (.int (p1 - (64 : Int32)))] []
      exact jn1 _ (fre_part (by omega) (by omega) (by omega))
  have fp0 : (p1 - (0 : Int32)).toInt = p1.toInt - 0 := by rw [show p1 - (0 : Int32) = p1 from by simp]; omega
  refine go_iload 116 rfl d3_114 rfl ?_
  refine go_if 131 119 rfl (by decide) rfl d3_116 rfl (fun (hc : 0 < (p1 - (0 : Int32)).toInt) => ?_) (fun (hc : ¬ (0 < (p1 - (0 : Int32)).toInt)) => absurd hc (by omega))
  refine go_iload 133 rfl d3_131 rfl ?_
  refine go_bipush (64 : Int32) 135 rfl d3_133 rfl ?_
  refine go_icmp 150 138 rfl (by decide) rfl d3_135 rfl (fun (hc : (64 : Int) ≤ (p1 - (0 : Int32)).toInt) => ?_) (fun (hc : ¬ ((64 : Int) ≤ (p1 - (0 : Int32)).toInt)) => absurd hc (by omega))
  exact jn0 _ (fre_free (by omega))
theorem d3_119 : decode prog_101_method_1_code 119 = .ok (.aload_n 0, 1) := by decide +kernel
theorem d3_120 : decode prog_101_method_1_code 120 = .ok (.getfield 25, 3) := by decide +kernel
theorem d3_123 : decode prog_101_method_1_code 123 = .ok (.iload_n 3, 1) := by decide +kernel
theorem d3_124 : decode prog_101_method_1_code 124 = .ok (.ldc2_w 46, 3) := by decide +kernel
theorem d3_127 : decode prog_101_method_1_code 127 = .ok (.lastore, 1) := by decide +kernel
theorem d3_128 : decode prog_101_method_1_code 128 = .ok (.goto 22, 3) := by decide +kernel
def Bini4 : Bdy := (⟨"com/example/clauseline/clauseline/service/TakenPieces", "<init>", "(I)V"⟩, prog_101_method_1_code, 5, none, ({ frames := 4, cells := 6, slots := 36, locals := 67 } : Room))
theorem m_ini4 (Z : State) (a0 : Array Value) (hw : ∀ d ∈ tables_1, d.before a0 Z = true) (h0 : Heap) (a1 : Addr) (p1 : Int32) (hp : 129 ≤ p1.toInt ∧ p1.toInt ≤ 256) :
    Met Bini4 Z a0 h0 #[(.ref a1), (.int p1)] (mem21 a1) (fun v ds => ∃ (a2 a3 a4 a5 a6 a7 : Addr) (q0 q1 q2 q3 : Int64) (z101 z201 z301 z102 z202 z302 z103 z203 z303 z104 z204 z304 z105 z205 z305 z106 z206 z306 z107 z207 z307 : Int32), (Fre (P0 p1.toInt) 0 q0 ∧ Fre (P0 p1.toInt) 1 q1 ∧ Fre (P0 p1.toInt) 2 q2 ∧ Fre (P0 p1.toInt) 3 q3 ∧ Sm (P0 p1.toInt) 0 256 z101.toInt z201.toInt z301.toInt ∧ Sm (P0 p1.toInt) 0 128 z102.toInt z202.toInt z302.toInt ∧ Sm (P0 p1.toInt) 128 256 z103.toInt z203.toInt z303.toInt ∧ Sm (P0 p1.toInt) 0 64 z104.toInt z204.toInt z304.toInt ∧ Sm (P0 p1.toInt) 64 128 z105.toInt z205.toInt z305.toInt ∧ Sm (P0 p1.toInt) 128 192 z106.toInt z206.toInt z306.toInt ∧ Sm (P0 p1.toInt) 192 256 z107.toInt z207.toInt z307.toInt) ∧ Ret none (M4 a1 a2 a3 a4 a5 a6 a7 q0 q1 q2 q3 z101 z201 z301 z102 z202 z302 z103 z203 z303 z104 z204 z304 z105 z205 z305 z106 z206 z306 z107 z207 z307 (0 : Int32) (0 : Int32) (0 : Int32)) v ds) := by
  refine Met.of pn3 (ls := #[.val (.ref a1), .val (.int p1), .unset, .unset, .unset]) (fun m => by first | (simp [entryFrame, mkF, argsToLocals, Value.category, Bini4]; done) | rfl) ?_
  refine go_aloadN 1 rfl d3_0 rfl rfl ?_
  refine go_initObj 4 rfl d3_1 rfl (wd hw 14 rfl) (wd hw 15 rfl) (wd hw 16 rfl) rfl (by decide) (by decide) ?_
  refine go_iconst (1 : Int32) 5 rfl d3_4 rfl ?_
  refine go_iloadN 6 rfl d3_5 rfl ?_
  refine go_bipush (64 : Int32) 8 rfl d3_6 rfl ?_
  refine go_iadd 9 rfl d3_8 rfl ?_
  have fa1 : (p1 + (64 : Int32)).toInt = p1.toInt + (64 : Int) := addE rfl rfl (by omega)
  refine go_iconst (1 : Int32) 10 rfl d3_9 rfl ?_
  refine go_isub 11 rfl d3_10 rfl ?_
  have fa2 : ((p1 + (64 : Int32)) - (1 : Int32)).toInt = (p1 + (64 : Int32)).toInt - (1 : Int) := subE rfl rfl (by omega)
  refine go_bipush (64 : Int32) 13 rfl d3_11 rfl ?_
  refine go_idiv 14 rfl d3_13 rfl (by decide) ?_
  have e1_ : (1 : Int32).toInt = 1 := rfl
  have ed := (c_idiv ((p1 + (64 : Int32)) - (1 : Int32)) (64 : Int32) 64 rfl (by decide)).1 (by omega)
  refine go_callS 17 rfl d3_14 (wd hw 17 rfl) (wd hw 6 rfl) (wd hw 3 rfl) (wd hw 7 rfl) (by decide) (m_max Z a0 hw h0 (mem21 a1) (1 : Int32) (((p1 + (64 : Int32)) - (1 : Int32)) / (64 : Int32))) (argsL := [(.int (1 : Int32)), (.int (((p1 + (64 : Int32)) - (1 : Int32)) / (64 : Int32)))]) (rest := []) rfl (ps := [.int, .int]) (by decide +kernel) rfl rfl 0 rfl (by decide) (by decide) (by decide) (by decide) ?_
  rintro _ _ ⟨z9108, rfl, rfl, hz9108, gz9108⟩
  show Go Bini4 Z a0 h0 _ 0 0 (mem21 a1) 17 #[.val (.ref a1), .val (.int p1), .unset, .unset, .unset] [(.int z9108)]
  have kz9108 : z9108.toInt = (1 : Int32).toInt ∨ z9108.toInt = (((p1 + (64 : Int32)) - (1 : Int32)) / (64 : Int32)).toInt := by rcases gz9108 with h | h <;> rw [h] <;> simp
  refine go_istoreN #[.val (.ref a1), .val (.int p1), .val (.int z9108), .unset, .unset] 18 rfl d3_17 rfl rfl ?_
  refine go_aloadN 19 rfl d3_18 rfl rfl ?_
  refine go_iconst (2 : Int32) 20 rfl d3_19 rfl ?_
  refine go_iloadN 21 rfl d3_20 rfl ?_
  refine go_imul 22 rfl d3_21 rfl ?_
  have fa3 : ((2 : Int32) * z9108).toInt = (2 : Int) * z9108.toInt := mulE rfl rfl (by omega)
  refine go_iconst (1 : Int32) 23 rfl d3_22 rfl ?_
  refine go_isub 24 rfl d3_23 rfl ?_
  have fa4 : (((2 : Int32) * z9108) - (1 : Int32)).toInt = ((2 : Int32) * z9108).toInt - (1 : Int) := subE rfl rfl (by omega)
  have ez : z9108 = (3 : Int32) ∨ z9108 = (4 : Int32) := by
    have : z9108.toInt = 3 ∨ z9108.toInt = 4 := by omega
    rcases this with q | q
    · exact Or.inl (i32_of q rfl)
    · exact Or.inr (i32_of q rfl)
  have hv : Jvm.Free.JP.Integer_highestOneBit_I.val (((2 : Int32) * z9108) - (1 : Int32)) = (4 : Int32) := by
    rcases ez with rfl | rfl <;> decide +kernel
  refine go_pureS 27 rfl d3_24 (wd hw 18 rfl) (wd hw 19 rfl) (tab_hob hw) (fun l => Jvm.Free.JP.Integer_highestOneBit_I.law l (((2 : Int32) * z9108) - (1 : Int32))) (by decide) (fun _ => ⟨rfl, trivial⟩) ((congrArg Value.int hv) : (.int (Jvm.Free.JP.Integer_highestOneBit_I.val (((2 : Int32) * z9108) - (1 : Int32))) : Value) = .int (4 : Int32)) (argsL := [(.int (((2 : Int32) * z9108) - (1 : Int32)))]) (rest := [(.ref a1)]) rfl (ps := [.int]) (by decide +kernel) rfl rfl 1 rfl (by decide) (by decide) (by decide) (by decide) ?_
  refine go_put 0 0 30 rfl d3_27 rfl rfl rfl (wd hw 27 rfl) (Or.inr ⟨(wd hw 28 rfl), rfl, rfl⟩) (wd hw 9 rfl) (ty := .int) (by decide) rfl rfl ?_
  refine go_aloadN 31 rfl d3_30 rfl rfl ?_
  refine go_aloadN 32 rfl d3_31 rfl rfl ?_
  refine go_get 0 0 35 rfl d3_32 rfl rfl rfl (wd hw 27 rfl) ?_
  refine go_newarr 37 rfl d3_35 rfl (wd hw 29 rfl) (by decide) 4 (by decide) (by decide) (by decide) (by decide) (fun a2 => ?_)
  refine go_put 0 1 40 rfl d3_37 rfl rfl rfl (wd hw 30 rfl) (Or.inr ⟨(wd hw 31 rfl), rfl, rfl⟩) (wd hw 9 rfl) (ty := (.array .long)) (by decide) rfl rfl ?_
  refine go_aloadN 41 rfl d3_40 rfl rfl ?_
  refine go_aloadN 42 rfl d3_41 rfl rfl ?_
  refine go_get 0 0 45 rfl d3_42 rfl rfl rfl (wd hw 27 rfl) ?_
  refine go_newarr 47 rfl d3_45 rfl (wd hw 29 rfl) (by decide) 4 (by decide) (by decide) (by decide) (by decide) (fun a3 => ?_)
  refine go_put 0 2 50 rfl d3_47 rfl rfl rfl (wd hw 32 rfl) (Or.inr ⟨(wd hw 33 rfl), rfl, rfl⟩) (wd hw 9 rfl) (ty := (.array .long)) (by decide) rfl rfl ?_
  refine go_aloadN 51 rfl d3_50 rfl rfl ?_
  refine go_iconst (2 : Int32) 52 rfl d3_51 rfl ?_
  refine go_aloadN 53 rfl d3_52 rfl rfl ?_
  refine go_get 0 0 56 rfl d3_53 rfl rfl rfl (wd hw 27 rfl) ?_
  refine go_imul 57 rfl d3_56 rfl ?_
  refine go_newarr 59 rfl d3_57 rfl (wd hw 34 rfl) (by decide) 8 (by decide) (by decide) (by decide) (by decide) (fun a4 => ?_)
  refine go_put 0 3 62 rfl d3_59 rfl rfl rfl (wd hw 35 rfl) (Or.inr ⟨(wd hw 36 rfl), rfl, rfl⟩) (wd hw 9 rfl) (ty := (.array .int)) (by decide) rfl rfl ?_
  refine go_aloadN 63 rfl d3_62 rfl rfl ?_
  refine go_iconst (2 : Int32) 64 rfl d3_63 rfl ?_
  refine go_aloadN 65 rfl d3_64 rfl rfl ?_
  refine go_get 0 0 68 rfl d3_65 rfl rfl rfl (wd hw 27 rfl) ?_
  refine go_imul 69 rfl d3_68 rfl ?_
  refine go_newarr 71 rfl d3_69 rfl (wd hw 34 rfl) (by decide) 8 (by decide) (by decide) (by decide) (by decide) (fun a5 => ?_)
  refine go_put 0 4 74 rfl d3_71 rfl rfl rfl (wd hw 37 rfl) (Or.inr ⟨(wd hw 38 rfl), rfl, rfl⟩) (wd hw 9 rfl) (ty := (.array .int)) (by decide) rfl rfl ?_
  refine go_aloadN 75 rfl d3_74 rfl rfl ?_
  refine go_iconst (2 : Int32) 76 rfl d3_75 rfl ?_
  refine go_aloadN 77 rfl d3_76 rfl rfl ?_
  refine go_get 0 0 80 rfl d3_77 rfl rfl rfl (wd hw 27 rfl) ?_
  refine go_imul 81 rfl d3_80 rfl ?_
  refine go_newarr 83 rfl d3_81 rfl (wd hw 34 rfl) (by decide) 8 (by decide) (by decide) (by decide) (by decide) (fun a6 => ?_)
  refine go_put 0 5 86 rfl d3_83 rfl rfl rfl (wd hw 39 rfl) (Or.inr ⟨(wd hw 40 rfl), rfl, rfl⟩) (wd hw 9 rfl) (ty := (.array .int)) (by decide) rfl rfl ?_
  refine go_aloadN 87 rfl d3_86 rfl rfl ?_
  refine go_aloadN 88 rfl d3_87 rfl rfl ?_
  refine go_get 0 0 91 rfl d3_88 rfl rfl rfl (wd hw 27 rfl) ?_
  refine go_newarr 93 rfl d3_91 rfl (wd hw 41 rfl) (by decide) 4 (by decide) (by decide) (by decide) (by decide) (fun a7 => ?_)
  refine go_put 0 6 96 rfl d3_93 rfl rfl rfl (wd hw 42 rfl) (Or.inr ⟨(wd hw 43 rfl), rfl, rfl⟩) (wd hw 9 rfl) (ty := (.array .boolean)) (by decide) rfl rfl ?_
  refine go_iconst (0 : Int32) 97 rfl d3_96 rfl ?_
  refine go_istoreN #[.val (.ref a1), .val (.int p1), .val (.int z9108), .val (.int (0 : Int32)), .unset] 98 rfl d3_97 rfl rfl ?_
  refine go_iloadN 99 rfl d3_98 rfl ?_
  refine go_aloadN 100 rfl d3_99 rfl rfl ?_
  refine go_get 0 0 103 rfl d3_100 rfl rfl rfl (wd hw 27 rfl) ?_
  refine go_icmp 161 106 rfl (by decide) rfl d3_103 rfl (fun (hc103 : (4 : Int) ≤ (0 : Int)) => absurd hc103 (by decide)) (fun (hc103 : ¬ ((4 : Int) ≤ (0 : Int))) => ?_)
  refine go_iloadN 107 rfl d3_106 rfl ?_
  refine go_iloadN 108 rfl d3_107 rfl ?_
  refine go_bipush (64 : Int32) 110 rfl d3_108 rfl ?_
  refine go_imul 111 rfl d3_110 rfl ?_
  refine go_isub 112 rfl d3_111 rfl ?_
  have fa5 : (p1 - (0 : Int32)).toInt = p1.toInt - (0 : Int) := subE rfl rfl (by omega)
  refine go_istore #[.val (.ref a1), .val (.int p1), .val (.int z9108), .val (.int (0 : Int32)), .val (.int (p1 - (0 : Int32)))] 114 rfl d3_112 rfl rfl ?_
  have jn0 : ∀ q0 : Int64, Fre (P0 p1.toInt) 0 q0 → Go Bini4 Z a0 h0 (fun v ds => ∃ (a2 a3 a4 a5 a6 a7 : Addr) (q0 q1 q2 q3 : Int64) (z101 z201 z301 z102 z202 z302 z103 z203 z303 z104 z204 z304 z105 z205 z305 z106 z206 z306 z107 z207 z307 : Int32), (Fre (P0 p1.toInt) 0 q0 ∧ Fre (P0 p1.toInt) 1 q1 ∧ Fre (P0 p1.toInt) 2 q2 ∧ Fre (P0 p1.toInt) 3 q3 ∧ Sm (P0 p1.toInt) 0 256 z101.toInt z201.toInt z301.toInt ∧ Sm (P0 p1.toInt) 0 128 z102.toInt z202.toInt z302.toInt ∧ Sm (P0 p1.toInt) 128 256 z103.toInt z203.toInt z303.toInt ∧ Sm (P0 p1.toInt) 0 64 z104.toInt z204.toInt z304.toInt ∧ Sm (P0 p1.toInt) 64 128 z105.toInt z205.toInt z305.toInt ∧ Sm (P0 p1.toInt) 128 192 z106.toInt z206.toInt z306.toInt ∧ Sm (P0 p1.toInt) 192 256 z107.toInt z207.toInt z307.toInt) ∧ Ret none (M4 a1 a2 a3 a4 a5 a6 a7 q0 q1 q2 q3 z101 z201 z301 z102 z202 z302 z103 z203 z303 z104 z204 z304 z105 z205 z305 z106 z206 z306 z107 z207 z307 (0 : Int32) (0 : Int32) (0 : Int32)) v ds) 6 36 (M4 a1 a2 a3 a4 a5 a6 a7 q0 (0 : Int64) (0 : Int64) (0 : Int64) (0 : Int32) (0 : Int32) (0 : Int32) (0 : Int32) (0 : Int32) (0 : Int32) (0 : Int32) (0 : Int32) (0 : Int32) (0 : Int32) (0 : Int32) (0 : Int32) (0 : Int32) (0 : Int32) (0 : Int32) (0 : Int32) (0 : Int32) (0 : Int32) (0 : Int32) (0 : Int32) (0 : Int32) (0 : Int32) (0 : Int32) (0 : Int32)) 150 #[.val (.ref a1), .val (.int p1), .val (.int z9108), .val (.int (0 : Int32)), .val (.int (p1 - (0 : Int32)))] [] := by
    intro q0 f0
    refine go_aloadN 151 rfl d3_150 rfl rfl ?_
    refine go_iloadN 152 rfl d3_151 rfl ?_
    refine go_callP (host := "") 155 rfl d3_152 (Or.inl (wd hw 45 rfl)) (wd hw 46 rfl) (wd hw 47 rfl) (wd hw 9 rfl) (wd hw 10 rfl) (wd hw 48 rfl) (by decide) (Mo.exa (i := 0) rfl) (m_sum Z a0 hw h0 (P0 p1.toInt) a1 a2 a3 a4 a5 a6 a7 [(.long q0), (.long (0 : Int64)), (.long (0 : Int64)), (.long (0 : Int64))] [(.long (0 : Int64)), (.long (0 : Int64)), (.long (0 : Int64)), (.long (0 : Int64))] [(.int (0 : Int32)), (.int (0 : Int32)), (.int (0 : Int32)), (.int (0 : Int32)), (.int (0 : Int32)), (.int (0 : Int32)), (.int (0 : Int32)), (.int (0 : Int32))] [(.int (0 : Int32)), (.int (0 : Int32)), (.int (0 : Int32)), (.int (0 : Int32)), (.int (0 : Int32)), (.int (0 : Int32)), (.int (0 : Int32)), (.int (0 : Int32))] [(.int (0 : Int32)), (.int (0 : Int32)), (.int (0 : Int32)), (.int (0 : Int32)), (.int (0 : Int32)), (.int (0 : Int32)), (.int (0 : Int32)), (.int (0 : Int32))] [(.int (0 : Int32)), (.int (0 : Int32)), (.int (0 : Int32)), (.int (0 : Int32))] (0 : Int32) (4 : Int32) (4 : Int32) q0 0 0 64 rfl rfl (by decide) f0 rfl (by decide) (by decide) (by decide) (by decide) (lbe rfl) (lbe rfl) (lbe rfl)) (argsL := [(.int (0 : Int32))]) (rest := []) rfl (ps := [.int]) (by decide +kernel) rfl rfl 0 rfl (by decide) (by decide) (by decide) (by decide) ?_
    rintro _ _ ⟨z104, z204, z304, s4, rfl, rfl⟩
    show Go Bini4 Z a0 h0 _ 6 36 (M4 a1 a2 a3 a4 a5 a6 a7 q0 (0 : Int64) (0 : Int64) (0 : Int64) (0 : Int32) (0 : Int32) (0 : Int32) (0 : Int32) (0 : Int32) (0 : Int32) (0 : Int32) (0 : Int32) (0 : Int32) z104 z204 z304 (0 : Int32) (0 : Int32) (0 : Int32) (0 : Int32) (0 : Int32) (0 : Int32) (0 : Int32) (0 : Int32) (0 : Int32) (0 : Int32) (0 : Int32) (0 : Int32)) 155 #[.val (.ref a1), .val (.int p1), .val (.int z9108), .val (.int (0 : Int32)), .val (.int (p1 - (0 : Int32)))] []
    refine go_iinc #[.val (.ref a1), .val (.int p1), .val (.int z9108), .val (.int (1 : Int32)), .val (.int (p1 - (0 : Int32)))] 158 rfl d3_155 rfl rfl ?_
    refine go_goto 98 (by decide) rfl d3_158 ?_
    refine go_iloadN 99 rfl d3_98 rfl ?_
    refine go_aloadN 100 rfl d3_99 rfl rfl ?_
    refine go_get 0 0 103 rfl d3_100 rfl rfl rfl (wd hw 27 rfl) ?_
    refine go_icmp 161 106 rfl (by decide) rfl d3_103 rfl (fun (hc103 : (4 : Int) ≤ (1 : Int)) => absurd hc103 (by decide)) (fun (hc103 : ¬ ((4 : Int) ≤ (1 : Int))) => ?_)
    refine go_iloadN 107 rfl d3_106 rfl ?_
    refine go_iloadN 108 rfl d3_107 rfl ?_
    refine go_bipush (64 : Int32) 110 rfl d3_108 rfl ?_
    refine go_imul 111 rfl d3_110 rfl ?_
    refine go_isub 112 rfl d3_111 rfl ?_
    have fa6 : (p1 - (64 : Int32)).toInt = p1.toInt - (64 : Int) := subE rfl rfl (by omega)
    refine go_istore #[.val (.ref a1), .val (.int p1), .val (.int z9108), .val (.int (1 : Int32)), .val (.int (p1 - (64 : Int32)))] 114 rfl d3_112 rfl rfl ?_
    have jn1 : ∀ q1 : Int64, Fre (P0 p1.toInt) 1 q1 → Go Bini4 Z a0 h0 (fun v ds => ∃ (a2 a3 a4 a5 a6 a7 : Addr) (q0 q1 q2 q3 : Int64) (z101 z201 z301 z102 z202 z302 z103 z203 z303 z104 z204 z304 z105 z205 z305 z106 z206 z306 z107 z207 z307 : Int32), (Fre (P0 p1.toInt) 0 q0 ∧ Fre (P0 p1.toInt) 1 q1 ∧ Fre (P0 p1.toInt) 2 q2 ∧ Fre (P0 p1.toInt) 3 q3 ∧ Sm (P0 p1.toInt) 0 256 z101.toInt z201.toInt z301.toInt ∧ Sm (P0 p1.toInt) 0 128 z102.toInt z202.toInt z302.toInt ∧ Sm (P0 p1.toInt) 128 256 z103.toInt z203.toInt z303.toInt ∧ Sm (P0 p1.toInt) 0 64 z104.toInt z204.toInt z304.toInt ∧ Sm (P0 p1.toInt) 64 128 z105.toInt z205.toInt z305.toInt ∧ Sm (P0 p1.toInt) 128 192 z106.toInt z206.toInt z306.toInt ∧ Sm (P0 p1.toInt) 192 256 z107.toInt z207.toInt z307.toInt) ∧ Ret none (M4 a1 a2 a3 a4 a5 a6 a7 q0 q1 q2 q3 z101 z201 z301 z102 z202 z302 z103 z203 z303 z104 z204 z304 z105 z205 z305 z106 z206 z306 z107 z207 z307 (0 : Int32) (0 : Int32) (0 : Int32)) v ds) 6 36 (M4 a1 a2 a3 a4 a5 a6 a7 q0 q1 (0 : Int64) (0 : Int64) (0 : Int32) (0 : Int32) (0 : Int32) (0 : Int32) (0 : Int32) (0 : Int32) (0 : Int32) (0 : Int32) (0 : Int32) z104 z204 z304 (0 : Int32) (0 : Int32) (0 : Int32) (0 : Int32) (0 : Int32) (0 : Int32) (0 : Int32) (0 : Int32) (0 : Int32) (0 : Int32) (0 : Int32) (0 : Int32)) 150 #[.val (.ref a1), .val (.int p1), .val (.int z9108), .val (.int (1 : Int32)), .val (.int (p1 - (64 : Int32)))] [] := by
      intro q1 f1
      refine go_aloadN 151 rfl d3_150 rfl rfl ?_
      refine go_iloadN 152 rfl d3_151 rfl ?_
      refine go_callP (host := "") 155 rfl d3_152 (Or.inl (wd hw 45 rfl)) (wd hw 46 rfl) (wd hw 47 rfl) (wd hw 9 rfl) (wd hw 10 rfl) (wd hw 48 rfl) (by decide) (Mo.exa (i := 0) rfl) (m_sum Z a0 hw h0 (P0 p1.toInt) a1 a2 a3 a4 a5 a6 a7 [(.long q0), (.long q1), (.long (0 : Int64)), (.long (0 : Int64))] [(.long (0 : Int64)), (.long (0 : Int64)), (.long (0 : Int64)), (.long (0 : Int64))] [(.int (0 : Int32)), (.int (0 : Int32)), (.int (0 : Int32)), (.int (0 : Int32)), (.int z104), (.int (0 : Int32)), (.int (0 : Int32)), (.int (0 : Int32))] [(.int (0 : Int32)), (.int (0 : Int32)), (.int (0 : Int32)), (.int (0 : Int32)), (.int z204), (.int (0 : Int32)), (.int (0 : Int32)), (.int (0 : Int32))] [(.int (0 : Int32)), (.int (0 : Int32)), (.int (0 : Int32)), (.int (0 : Int32)), (.int z304), (.int (0 : Int32)), (.int (0 : Int32)), (.int (0 : Int32))] [(.int (0 : Int32)), (.int (0 : Int32)), (.int (0 : Int32)), (.int (0 : Int32))] (1 : Int32) (4 : Int32) (5 : Int32) q1 1 64 128 rfl rfl (by decide) f1 rfl (by decide) (by decide) (by decide) (by decide) (lbe rfl) (lbe rfl) (lbe rfl)) (argsL := [(.int (1 : Int32))]) (rest := []) rfl (ps := [.int]) (by decide +kernel) rfl rfl 0 rfl (by decide) (by decide) (by decide) (by decide) ?_
      rintro _ _ ⟨z105, z205, z305, s5, rfl, rfl⟩
      show Go Bini4 Z a0 h0 _ 6 36 (M4 a1 a2 a3 a4 a5 a6 a7 q0 q1 (0 : Int64) (0 : Int64) (0 : Int32) (0 : Int32) (0 : Int32) (0 : Int32) (0 : Int32) (0 : Int32) (0 : Int32) (0 : Int32) (0 : Int32) z104 z204 z304 z105 z205 z305 (0 : Int32) (0 : Int32) (0 : Int32) (0 : Int32) (0 : Int32) (0 : Int32) (0 : Int32) (0 : Int32) (0 : Int32)) 155 #[.val (.ref a1), .val (.int p1), .val (.int z9108), .val (.int (1 : Int32)), .val (.int (p1 - (64 : Int32)))] []
      refine go_iinc #[.val (.ref a1), .val (.int p1), .val (.int z9108), .val (.int (2 : Int32)), .val (.int (p1 - (64 : Int32)))] 158 rfl d3_155 rfl rfl ?_
      refine go_goto 98 (by decide) rfl d3_158 ?_
      refine go_iloadN 99 rfl d3_98 rfl ?_
      refine go_aloadN 100 rfl d3_99 rfl rfl ?_
      refine go_get 0 0 103 rfl d3_100 rfl rfl rfl (wd hw 27 rfl) ?_
      refine go_icmp 161 106 rfl (by decide) rfl d3_103 rfl (fun (hc103 : (4 : Int) ≤ (2 : Int)) => absurd hc103 (by decide)) (fun (hc103 : ¬ ((4 : Int) ≤ (2 : Int))) => ?_)
      refine go_iloadN 107 rfl d3_106 rfl ?_
      refine go_iloadN 108 rfl d3_107 rfl ?_
      refine go_bipush (64 : Int32) 110 rfl d3_108 rfl ?_
      refine go_imul 111 rfl d3_110 rfl ?_
      refine go_isub 112 rfl d3_111 rfl ?_
      have fa7 : (p1 - (128 : Int32)).toInt = p1.toInt - (128 : Int) := subE rfl rfl (by omega)
      refine go_istore #[.val (.ref a1), .val (.int p1), .val (.int z9108), .val (.int (2 : Int32)), .val (.int (p1 - (128 : Int32)))] 114 rfl d3_112 rfl rfl ?_
      have jn2 : ∀ q2 : Int64, Fre (P0 p1.toInt) 2 q2 → Go Bini4 Z a0 h0 (fun v ds => ∃ (a2 a3 a4 a5 a6 a7 : Addr) (q0 q1 q2 q3 : Int64) (z101 z201 z301 z102 z202 z302 z103 z203 z303 z104 z204 z304 z105 z205 z305 z106 z206 z306 z107 z207 z307 : Int32), (Fre (P0 p1.toInt) 0 q0 ∧ Fre (P0 p1.toInt) 1 q1 ∧ Fre (P0 p1.toInt) 2 q2 ∧ Fre (P0 p1.toInt) 3 q3 ∧ Sm (P0 p1.toInt) 0 256 z101.toInt z201.toInt z301.toInt ∧ Sm (P0 p1.toInt) 0 128 z102.toInt z202.toInt z302.toInt ∧ Sm (P0 p1.toInt) 128 256 z103.toInt z203.toInt z303.toInt ∧ Sm (P0 p1.toInt) 0 64 z104.toInt z204.toInt z304.toInt ∧ Sm (P0 p1.toInt) 64 128 z105.toInt z205.toInt z305.toInt ∧ Sm (P0 p1.toInt) 128 192 z106.toInt z206.toInt z306.toInt ∧ Sm (P0 p1.toInt) 192 256 z107.toInt z207.toInt z307.toInt) ∧ Ret none (M4 a1 a2 a3 a4 a5 a6 a7 q0 q1 q2 q3 z101 z201 z301 z102 z202 z302 z103 z203 z303 z104 z204 z304 z105 z205 z305 z106 z206 z306 z107 z207 z307 (0 : Int32) (0 : Int32) (0 : Int32)) v ds) 6 36 (M4 a1 a2 a3 a4 a5 a6 a7 q0 q1 q2 (0 : Int64) (0 : Int32) (0 : Int32) (0 : Int32) (0 : Int32) (0 : Int32) (0 : Int32) (0 : Int32) (0 : Int32) (0 : Int32) z104 z204 z304 z105 z205 z305 (0 : Int32) (0 : Int32) (0 : Int32) (0 : Int32) (0 : Int32) (0 : Int32) (0 : Int32) (0 : Int32) (0 : Int32)) 150 #[.val (.ref a1), .val (.int p1), .val (.int z9108), .val (.int (2 : Int32)), .val (.int (p1 - (128 : Int32)))] [] := by
        intro q2 f2
        refine go_aloadN 151 rfl d3_150 rfl rfl ?_
        refine go_iloadN 152 rfl d3_151 rfl ?_
        refine go_callP (host := "") 155 rfl d3_152 (Or.inl (wd hw 45 rfl)) (wd hw 46 rfl) (wd hw 47 rfl) (wd hw 9 rfl) (wd hw 10 rfl) (wd hw 48 rfl) (by decide) (Mo.exa (i := 0) rfl) (m_sum Z a0 hw h0 (P0 p1.toInt) a1 a2 a3 a4 a5 a6 a7 [(.long q0), (.long q1), (.long q2), (.long (0 : Int64))] [(.long (0 : Int64)), (.long (0 : Int64)), (.long (0 : Int64)), (.long (0 : Int64))] [(.int (0 : Int32)), (.int (0 : Int32)), (.int (0 : Int32)), (.int (0 : Int32)), (.int z104), (.int z105), (.int (0 : Int32)), (.int (0 : Int32))] [(.int (0 : Int32)), (.int (0 : Int32)), (.int (0 : Int32)), (.int (0 : Int32)), (.int z204), (.int z205), (.int (0 : Int32)), (.int (0 : Int32))] [(.int (0 : Int32)), (.int (0 : Int32)), (.int (0 : Int32)), (.int (0 : Int32)), (.int z304), (.int z305), (.int (0 : Int32)), (.int (0 : Int32))] [(.int (0 : Int32)), (.int (0 : Int32)), (.int (0 : Int32)), (.int (0 : Int32))] (2 : Int32) (4 : Int32) (6 : Int32) q2 2 128 192 rfl rfl (by decide) f2 rfl (by decide) (by decide) (by decide) (by decide) (lbe rfl) (lbe rfl) (lbe rfl)) (argsL := [(.int (2 : Int32))]) (rest := []) rfl (ps := [.int]) (by decide +kernel) rfl rfl 0 rfl (by decide) (by decide) (by decide) (by decide) ?_
        rintro _ _ ⟨z106, z206, z306, s6, rfl, rfl⟩
        show Go Bini4 Z a0 h0 _ 6 36 (M4 a1 a2 a3 a4 a5 a6 a7 q0 q1 q2 (0 : Int64) (0 : Int32) (0 : Int32) (0 : Int32) (0 : Int32) (0 : Int32) (0 : Int32) (0 : Int32) (0 : Int32) (0 : Int32) z104 z204 z304 z105 z205 z305 z106 z206 z306 (0 : Int32) (0 : Int32) (0 : Int32) (0 : Int32) (0 : Int32) (0 : Int32)) 155 #[.val (.ref a1), .val (.int p1), .val (.int z9108), .val (.int (2 : Int32)), .val (.int (p1 - (128 : Int32)))] []
        refine go_iinc #[.val (.ref a1), .val (.int p1), .val (.int z9108), .val (.int (3 : Int32)), .val (.int (p1 - (128 : Int32)))] 158 rfl d3_155 rfl rfl ?_
        refine go_goto 98 (by decide) rfl d3_158 ?_
        refine go_iloadN 99 rfl d3_98 rfl ?_
        refine go_aloadN 100 rfl d3_99 rfl rfl ?_
        refine go_get 0 0 103 rfl d3_100 rfl rfl rfl (wd hw 27 rfl) ?_
        refine go_icmp 161 106 rfl (by decide) rfl d3_103 rfl (fun (hc103 : (4 : Int) ≤ (3 : Int)) => absurd hc103 (by decide)) (fun (hc103 : ¬ ((4 : Int) ≤ (3 : Int))) => ?_)
        refine go_iloadN 107 rfl d3_106 rfl ?_
        refine go_iloadN 108 rfl d3_107 rfl ?_
        refine go_bipush (64 : Int32) 110 rfl d3_108 rfl ?_
        refine go_imul 111 rfl d3_110 rfl ?_
        refine go_isub 112 rfl d3_111 rfl ?_
        have fa8 : (p1 - (192 : Int32)).toInt = p1.toInt - (192 : Int) := subE rfl rfl (by omega)
        refine go_istore #[.val (.ref a1), .val (.int p1), .val (.int z9108), .val (.int (3 : Int32)), .val (.int (p1 - (192 : Int32)))] 114 rfl d3_112 rfl rfl ?_
        have jn3 : ∀ q3 : Int64, Fre (P0 p1.toInt) 3 q3 → Go Bini4 Z a0 h0 (fun v ds => ∃ (a2 a3 a4 a5 a6 a7 : Addr) (q0 q1 q2 q3 : Int64) (z101 z201 z301 z102 z202 z302 z103 z203 z303 z104 z204 z304 z105 z205 z305 z106 z206 z306 z107 z207 z307 : Int32), (Fre (P0 p1.toInt) 0 q0 ∧ Fre (P0 p1.toInt) 1 q1 ∧ Fre (P0 p1.toInt) 2 q2 ∧ Fre (P0 p1.toInt) 3 q3 ∧ Sm (P0 p1.toInt) 0 256 z101.toInt z201.toInt z301.toInt ∧ Sm (P0 p1.toInt) 0 128 z102.toInt z202.toInt z302.toInt ∧ Sm (P0 p1.toInt) 128 256 z103.toInt z203.toInt z303.toInt ∧ Sm (P0 p1.toInt) 0 64 z104.toInt z204.toInt z304.toInt ∧ Sm (P0 p1.toInt) 64 128 z105.toInt z205.toInt z305.toInt ∧ Sm (P0 p1.toInt) 128 192 z106.toInt z206.toInt z306.toInt ∧ Sm (P0 p1.toInt) 192 256 z107.toInt z207.toInt z307.toInt) ∧ Ret none (M4 a1 a2 a3 a4 a5 a6 a7 q0 q1 q2 q3 z101 z201 z301 z102 z202 z302 z103 z203 z303 z104 z204 z304 z105 z205 z305 z106 z206 z306 z107 z207 z307 (0 : Int32) (0 : Int32) (0 : Int32)) v ds) 6 36 (M4 a1 a2 a3 a4 a5 a6 a7 q0 q1 q2 q3 (0 : Int32) (0 : Int32) (0 : Int32) (0 : Int32) (0 : Int32) (0 : Int32) (0 : Int32) (0 : Int32) (0 : Int32) z104 z204 z304 z105 z205 z305 z106 z206 z306 (0 : Int32) (0 : Int32) (0 : Int32) (0 : Int32) (0 : Int32) (0 : Int32)) 150 #[.val (.ref a1), .val (.int p1), .val (.int z9108), .val (.int (3 : Int32)), .val (.int (p1 - (192 : Int32)))] [] := by
          intro q3 f3
          refine go_aloadN 151 rfl d3_150 rfl rfl ?_
          refine go_iloadN 152 rfl d3_151 rfl ?_
          refine go_callP (host := "") 155 rfl d3_152 (Or.inl (wd hw 45 rfl)) (wd hw 46 rfl) (wd hw 47 rfl) (wd hw 9 rfl) (wd hw 10 rfl) (wd hw 48 rfl) (by decide) (Mo.exa (i := 0) rfl) (m_sum Z a0 hw h0 (P0 p1.toInt) a1 a2 a3 a4 a5 a6 a7 [(.long q0), (.long q1), (.long q2), (.long q3)] [(.long (0 : Int64)), (.long (0 : Int64)), (.long (0 : Int64)), (.long (0 : Int64))] [(.int (0 : Int32)), (.int (0 : Int32)), (.int (0 : Int32)), (.int (0 : Int32)), (.int z104), (.int z105), (.int z106), (.int (0 : Int32))] [(.int (0 : Int32)), (.int (0 : Int32)), (.int (0 : Int32)), (.int (0 : Int32)), (.int z204), (.int z205), (.int z206), (.int (0 : Int32))] [(.int (0 : Int32)), (.int (0 : Int32)), (.int (0 : Int32)), (.int (0 : Int32)), (.int z304), (.int z305), (.int z306), (.int (0 : Int32))] [(.int (0 : Int32)), (.int (0 : Int32)), (.int (0 : Int32)), (.int (0 : Int32))] (3 : Int32) (4 : Int32) (7 : Int32) q3 3 192 256 rfl rfl (by decide) f3 rfl (by decide) (by decide) (by decide) (by decide) (lbe rfl) (lbe rfl) (lbe rfl)) (argsL := [(.int (3 : Int32))]) (rest := []) rfl (ps := [.int]) (by decide +kernel) rfl rfl 0 rfl (by decide) (by decide) (by decide) (by decide) ?_
          rintro _ _ ⟨z107, z207, z307, s7, rfl, rfl⟩
          show Go Bini4 Z a0 h0 _ 6 36 (M4 a1 a2 a3 a4 a5 a6 a7 q0 q1 q2 q3 (0 : Int32) (0 : Int32) (0 : Int32) (0 : Int32) (0 : Int32) (0 : Int32) (0 : Int32) (0 : Int32) (0 : Int32) z104 z204 z304 z105 z205 z305 z106 z206 z306 z107 z207 z307 (0 : Int32) (0 : Int32) (0 : Int32)) 155 #[.val (.ref a1), .val (.int p1), .val (.int z9108), .val (.int (3 : Int32)), .val (.int (p1 - (192 : Int32)))] []
          refine go_iinc #[.val (.ref a1), .val (.int p1), .val (.int z9108), .val (.int (4 : Int32)), .val (.int (p1 - (192 : Int32)))] 158 rfl d3_155 rfl rfl ?_
          refine go_goto 98 (by decide) rfl d3_158 ?_
          refine go_iloadN 99 rfl d3_98 rfl ?_
          refine go_aloadN 100 rfl d3_99 rfl rfl ?_
          refine go_get 0 0 103 rfl d3_100 rfl rfl rfl (wd hw 27 rfl) ?_
          refine go_icmp 161 106 rfl (by decide) rfl d3_103 rfl (fun (hc103 : (4 : Int) ≤ (4 : Int)) => ?_) (fun (hc103 : ¬ ((4 : Int) ≤ (4 : Int))) => absurd hc103 (by decide))
          refine go_aloadN 162 rfl d3_161 rfl rfl ?_
          refine go_get 0 0 165 rfl d3_162 rfl rfl rfl (wd hw 27 rfl) ?_
          refine go_iconst (1 : Int32) 166 rfl d3_165 rfl ?_
          refine go_isub 167 rfl d3_166 rfl ?_
          refine go_istoreN #[.val (.ref a1), .val (.int p1), .val (.int z9108), .val (.int (3 : Int32)), .val (.int (p1 - (192 : Int32)))] 168 rfl d3_167 rfl rfl ?_
          refine go_iloadN 169 rfl d3_168 rfl ?_
          refine go_iconst (1 : Int32) 170 rfl d3_169 rfl ?_
          refine go_icmp 184 173 rfl (by decide) rfl d3_170 rfl (fun (hc170 : (3 : Int) < (1 : Int)) => absurd hc170 (by decide)) (fun (hc170 : ¬ ((3 : Int) < (1 : Int))) => ?_)
          refine go_aloadN 174 rfl d3_173 rfl rfl ?_
          refine go_iloadN 175 rfl d3_174 rfl ?_
          refine go_callP (host := "") 178 rfl d3_175 (Or.inl (wd hw 92 rfl)) (wd hw 93 rfl) (wd hw 94 rfl) (wd hw 9 rfl) (wd hw 10 rfl) (wd hw 95 rfl) (by decide) (Mo.exa (i := 0) rfl) (m_mrg4_3 Z a0 hw h0 (P0 p1.toInt) a1 a2 a3 a4 a5 a6 a7 q0 q1 q2 q3 (0 : Int32) (0 : Int32) (0 : Int32) (0 : Int32) (0 : Int32) (0 : Int32) (0 : Int32) (0 : Int32) (0 : Int32) z104 z204 z304 z105 z205 z305 z106 z206 z306 z107 z207 z307 (0 : Int32) (0 : Int32) (0 : Int32) s6 s7) (argsL := [(.int (3 : Int32))]) (rest := []) rfl (ps := [.int]) (by decide +kernel) rfl rfl 0 rfl (by decide) (by decide) (by decide) (by decide) ?_
          rintro _ _ ⟨z766, z767, z768, hz766, rfl, rfl⟩
          show Go Bini4 Z a0 h0 _ 6 36 (M4 a1 a2 a3 a4 a5 a6 a7 q0 q1 q2 q3 (0 : Int32) (0 : Int32) (0 : Int32) (0 : Int32) (0 : Int32) (0 : Int32) z766 z767 z768 z104 z204 z304 z105 z205 z305 z106 z206 z306 z107 z207 z307 (0 : Int32) (0 : Int32) (0 : Int32)) 178 #[.val (.ref a1), .val (.int p1), .val (.int z9108), .val (.int (3 : Int32)), .val (.int (p1 - (192 : Int32)))] []
          refine go_iinc #[.val (.ref a1), .val (.int p1), .val (.int z9108), .val (.int (2 : Int32)), .val (.int (p1 - (192 : Int32)))] 181 rfl d3_178 rfl rfl ?_
          refine go_goto 168 (by decide) rfl d3_181 ?_
          refine go_iloadN 169 rfl d3_168 rfl ?_
          refine go_iconst (1 : Int32) 170 rfl d3_169 rfl ?_
          refine go_icmp 184 173 rfl (by decide) rfl d3_170 rfl (fun (hc170 : (2 : Int) < (1 : Int)) => absurd hc170 (by decide)) (fun (hc170 : ¬ ((2 : Int) < (1 : Int))) => ?_)
          refine go_aloadN 174 rfl d3_173 rfl rfl ?_
          refine go_iloadN 175 rfl d3_174 rfl ?_
          refine go_callP (host := "") 178 rfl d3_175 (Or.inl (wd hw 92 rfl)) (wd hw 93 rfl) (wd hw 94 rfl) (wd hw 9 rfl) (wd hw 10 rfl) (wd hw 95 rfl) (by decide) (Mo.exa (i := 0) rfl) (m_mrg4_2 Z a0 hw h0 (P0 p1.toInt) a1 a2 a3 a4 a5 a6 a7 q0 q1 q2 q3 (0 : Int32) (0 : Int32) (0 : Int32) (0 : Int32) (0 : Int32) (0 : Int32) z766 z767 z768 z104 z204 z304 z105 z205 z305 z106 z206 z306 z107 z207 z307 (0 : Int32) (0 : Int32) (0 : Int32) s4 s5) (argsL := [(.int (2 : Int32))]) (rest := []) rfl (ps := [.int]) (by decide +kernel) rfl rfl 0 rfl (by decide) (by decide) (by decide) (by decide) ?_
          rintro _ _ ⟨z769, z770, z771, hz769, rfl, rfl⟩
          show Go Bini4 Z a0 h0 _ 6 36 (M4 a1 a2 a3 a4 a5 a6 a7 q0 q1 q2 q3 (0 : Int32) (0 : Int32) (0 : Int32) z769 z770 z771 z766 z767 z768 z104 z204 z304 z105 z205 z305 z106 z206 z306 z107 z207 z307 (0 : Int32) (0 : Int32) (0 : Int32)) 178 #[.val (.ref a1), .val (.int p1), .val (.int z9108), .val (.int (2 : Int32)), .val (.int (p1 - (192 : Int32)))] []
          refine go_iinc #[.val (.ref a1), .val (.int p1), .val (.int z9108), .val (.int (1 : Int32)), .val (.int (p1 - (192 : Int32)))] 181 rfl d3_178 rfl rfl ?_
          refine go_goto 168 (by decide) rfl d3_181 ?_
          refine go_iloadN 169 rfl d3_168 rfl ?_
          refine go_iconst (1 : Int32) 170 rfl d3_169 rfl ?_
          refine go_icmp 184 173 rfl (by decide) rfl d3_170 rfl (fun (hc170 : (1 : Int) < (1 : Int)) => absurd hc170 (by decide)) (fun (hc170 : ¬ ((1 : Int) < (1 : Int))) => ?_)
          refine go_aloadN 174 rfl d3_173 rfl rfl ?_
          refine go_iloadN 175 rfl d3_174 rfl ?_
          refine go_callP (host := "") 178 rfl d3_175 (Or.inl (wd hw 92 rfl)) (wd hw 93 rfl) (wd hw 94 rfl) (wd hw 9 rfl) (wd hw 10 rfl) (wd hw 95 rfl) (by decide) (Mo.exa (i := 0) rfl) (m_mrg4_1 Z a0 hw h0 (P0 p1.toInt) a1 a2 a3 a4 a5 a6 a7 q0 q1 q2 q3 (0 : Int32) (0 : Int32) (0 : Int32) z769 z770 z771 z766 z767 z768 z104 z204 z304 z105 z205 z305 z106 z206 z306 z107 z207 z307 (0 : Int32) (0 : Int32) (0 : Int32) hz769 hz766) (argsL := [(.int (1 : Int32))]) (rest := []) rfl (ps := [.int]) (by decide +kernel) rfl rfl 0 rfl (by decide) (by decide) (by decide) (by decide) ?_
          rintro _ _ ⟨z772, z773, z774, hz772, rfl, rfl⟩
          show Go Bini4 Z a0 h0 _ 6 36 (M4 a1 a2 a3 a4 a5 a6 a7 q0 q1 q2 q3 z772 z773 z774 z769 z770 z771 z766 z767 z768 z104 z204 z304 z105 z205 z305 z106 z206 z306 z107 z207 z307 (0 : Int32) (0 : Int32) (0 : Int32)) 178 #[.val (.ref a1), .val (.int p1), .val (.int z9108), .val (.int (1 : Int32)), .val (.int (p1 - (192 : Int32)))] []
          refine go_iinc #[.val (.ref a1), .val (.int p1), .val (.int z9108), .val (.int (0 : Int32)), .val (.int (p1 - (192 : Int32)))] 181 rfl d3_178 rfl rfl ?_
          refine go_goto 168 (by decide) rfl d3_181 ?_
          refine go_iloadN 169 rfl d3_168 rfl ?_
          refine go_iconst (1 : Int32) 170 rfl d3_169 rfl ?_
          refine go_icmp 184 173 rfl (by decide) rfl d3_170 rfl (fun (hc170 : (0 : Int) < (1 : Int)) => ?_) (fun (hc170 : ¬ ((0 : Int) < (1 : Int))) => absurd hc170 (by decide))
          exact go_return d3_184 rfl rfl (by decide) (by decide) ⟨_, _, _, _, _, _, _, _, _, _, _, _, _, _, _, _, _, _, _, _, _, _, _, _, _, _, _, _, _, _, _, ⟨f0, f1, f2, f3, hz772, hz769, hz766, s4, s5, s6, s7⟩, rfl, rfl⟩
        have fp3 : (p1 - (192 : Int32)).toInt = p1.toInt - 192 := by omega
        refine go_iload 116 rfl d3_114 rfl ?_
        refine go_if 131 119 rfl (by decide) rfl d3_116 rfl (fun (hp3 : 0 < (p1 - (192 : Int32)).toInt) => ?_) (fun (hp3 : ¬ (0 < (p1 - (192 : Int32)).toInt)) => ?_)
        · refine go_iload 133 rfl d3_131 rfl ?_
          refine go_bipush (64 : Int32) 135 rfl d3_133 rfl ?_
          refine go_icmp 150 138 rfl (by decide) rfl d3_135 rfl (fun (hg3 : (64 : Int) ≤ (p1 - (192 : Int32)).toInt) => ?_) (fun (hg3 : ¬ ((64 : Int) ≤ (p1 - (192 : Int32)).toInt)) => ?_)
          · exact jn3 _ (fre_free (by omega))
          · refine go_aloadN 139 rfl d3_138 rfl rfl ?_
            refine go_get 0 1 142 rfl d3_139 rfl rfl rfl (wd hw 30 rfl) ?_
            refine go_iloadN 143 rfl d3_142 rfl ?_
            refine go_ldc2 (v := (-1 : Int64)) 146 rfl d3_143 (wd hw 44 rfl) ?_
            refine go_iload 148 rfl d3_146 rfl ?_
            refine go_lshl 149 rfl d3_148 rfl ?_
            refine go_lastore 1 150 rfl d3_149 rfl rfl (by decide) (lbe rfl) ?_
            show Go Bini4 Z a0 h0 _ 6 36 (M4 a1 a2 a3 a4 a5 a6 a7 q0 q1 q2 ((-1 : Int64) <<< ((p1 - (192 : Int32)) &&& 0x3f).toInt64) (0 : Int32) (0 : Int32) (0 : Int32) (0 : Int32) (0 : Int32) (0 : Int32) (0 : Int32) (0 : Int32) (0 : Int32) z104 z204 z304 z105 z205 z305 z106 z206 z306 (0 : Int32) (0 : Int32) (0 : Int32) (0 : Int32) (0 : Int32) (0 : Int32)) 150 #[.val (.ref a1), .val (.int p1), .val (.int z9108), .val (.int (3 : Int32)), .val (.int (p1 - (192 : Int32)))] []
            exact jn3 _ (fre_part (by omega) (by omega) (by omega))
        · refine go_aloadN 120 rfl d3_119 rfl rfl ?_
          refine go_get 0 1 123 rfl d3_120 rfl rfl rfl (wd hw 30 rfl) ?_
          refine go_iloadN 124 rfl d3_123 rfl ?_
          refine go_ldc2 (v := (-1 : Int64)) 127 rfl d3_124 (wd hw 44 rfl) ?_
          refine go_lastore 1 128 rfl d3_127 rfl rfl (by decide) (lbe rfl) ?_
          refine go_goto 150 (by decide) rfl d3_128 ?_
          exact jn3 _ (fre_full (by omega))
      have fp2 : (p1 - (128 : Int32)).toInt = p1.toInt - 128 := by omega
      refine go_iload 116 rfl d3_114 rfl ?_
      refine go_if 131 119 rfl (by decide) rfl d3_116 rfl (fun (hc : 0 < (p1 - (128 : Int32)).toInt) => ?_) (fun (hc : ¬ (0 < (p1 - (128 : Int32)).toInt)) => absurd hc (by omega))
      refine go_iload 133 rfl d3_131 rfl ?_
      refine go_bipush (64 : Int32) 135 rfl d3_133 rfl ?_
      refine go_icmp 150 138 rfl (by decide) rfl d3_135 rfl (fun (hg2 : (64 : Int) ≤ (p1 - (128 : Int32)).toInt) => ?_) (fun (hg2 : ¬ ((64 : Int) ≤ (p1 - (128 : Int32)).toInt)) => ?_)
      · exact jn2 _ (fre_free (by omega))
      · refine go_aloadN 139 rfl d3_138 rfl rfl ?_
        refine go_get 0 1 142 rfl d3_139 rfl rfl rfl (wd hw 30 rfl) ?_
        refine go_iloadN 143 rfl d3_142 rfl ?_
        refine go_ldc2 (v := (-1 : Int64)) 146 rfl d3_143 (wd hw 44 rfl) ?_
        refine go_iload 148 rfl d3_146 rfl ?_
        refine go_lshl 149 rfl d3_148 rfl ?_
        refine go_lastore 1 150 rfl d3_149 rfl rfl (by decide) (lbe rfl) ?_
        show Go Bini4 Z a0 h0 _ 6 36 (M4 a1 a2 a3 a4 a5 a6 a7 q0 q1 ((-1 : Int64) <<< ((p1 - (128 : Int32)) &&& 0x3f).toInt64) (0 : Int64) (0 : Int32) (0 : Int32) (0 : Int32) (0 : Int32) (0 : Int32) (0 : Int32) (0 : Int32) (0 : Int32) (0 : Int32) z104 z204 z304 z105 z205 z305 (0 : Int32) (0 : Int32) (0 : Int32) (0 : Int32) (0 : Int32) (0 : Int32) (0 : Int32) (0 : Int32) (0 : Int32)) 150 #[.val (.ref a1), .val (.int p1), .val (.int z9108), .val (.int (2 : Int32)), .val (.int (p1 - (128 : Int32)))] []
        exact jn2 _ (fre_part (by omega) (by omega) (by omega))
    have fp1 : (p1 - (64 : Int32)).toInt = p1.toInt - 64 := by omega
    refine go_iload 116 rfl d3_114 rfl ?_
    refine go_if 131 119 rfl (by decide) rfl d3_116 rfl (fun (hc : 0 < (p1 - (64 : Int32)).toInt) => ?_) (fun (hc : ¬ (0 < (p1 - (64 : Int32)).toInt)) => absurd hc (by omega))
    refine go_iload 133 rfl d3_131 rfl ?_
    refine go_bipush (64 : Int32) 135 rfl d3_133 rfl ?_
    refine go_icmp 150 138 rfl (by decide) rfl d3_135 rfl (fun (hc : (64 : Int) ≤ (p1 - (64 : Int32)).toInt) => ?_) (fun (hc : ¬ ((64 : Int) ≤ (p1 - (64 : Int32)).toInt)) => absurd hc (by omega))
    exact jn1 _ (fre_free (by omega))
  have fp0 : (p1 - (0 : Int32)).toInt = p1.toInt - 0 := by rw [show p1 - (0 : Int32) = p1 from by simp]; omega
  refine go_iload 116 rfl d3_114 rfl ?_
  refine go_if 131 119 rfl (by decide) rfl d3_116 rfl (fun (hc : 0 < (p1 - (0 : Int32)).toInt) => ?_) (fun (hc : ¬ (0 < (p1 - (0 : Int32)).toInt)) => absurd hc (by omega))
  refine go_iload 133 rfl d3_131 rfl ?_
  refine go_bipush (64 : Int32) 135 rfl d3_133 rfl ?_
  refine go_icmp 150 138 rfl (by decide) rfl d3_135 rfl (fun (hc : (64 : Int) ≤ (p1 - (0 : Int32)).toInt) => ?_) (fun (hc : ¬ ((64 : Int) ≤ (p1 - (0 : Int32)).toInt)) => absurd hc (by omega))
  exact jn0 _ (fre_free (by omega))
theorem d18_0 : decode method_3_code 0 = .ok (.iload_n 3, 1) := by decide +kernel
theorem d18_1 : decode method_3_code 1 = .ok (.iload 4, 2) := by decide +kernel
theorem d18_3 : decode method_3_code 3 = .ok (.iadd, 1) := by decide +kernel
theorem d18_4 : decode method_3_code 4 = .ok (.iload_n 1, 1) := by decide +kernel
theorem d18_5 : decode method_3_code 5 = .ok (.if_icmp .gt 5, 3) := by decide +kernel
theorem d18_8 : decode method_3_code 8 = .ok (.iload_n 3, 1) := by decide +kernel
theorem d18_9 : decode method_3_code 9 = .ok (.ireturn, 1) := by decide +kernel
theorem d18_10 : decode method_3_code 10 = .ok (.iload_n 3, 1) := by decide +kernel
theorem d18_11 : decode method_3_code 11 = .ok (.iload_n 2, 1) := by decide +kernel
theorem d18_12 : decode method_3_code 12 = .ok (.iconst 1, 1) := by decide +kernel
theorem d18_13 : decode method_3_code 13 = .ok (.iadd, 1) := by decide +kernel
theorem d18_14 : decode method_3_code 14 = .ok (.invokestatic 14, 3) := by decide +kernel
theorem d18_17 : decode method_3_code 17 = .ok (.istore 5, 2) := by decide +kernel
theorem d18_19 : decode method_3_code 19 = .ok (.iload 5, 2) := by decide +kernel
theorem d18_21 : decode method_3_code 21 = .ok (.iload 4, 2) := by decide +kernel
theorem d18_23 : decode method_3_code 23 = .ok (.iadd, 1) := by decide +kernel
theorem d18_24 : decode method_3_code 24 = .ok (.iload_n 0, 1) := by decide +kernel
theorem d18_25 : decode method_3_code 25 = .ok (.if_icmp .gt 8, 3) := by decide +kernel
theorem d18_28 : decode method_3_code 28 = .ok (.iload 5, 2) := by decide +kernel
theorem d18_30 : decode method_3_code 30 = .ok (.goto 4, 3) := by decide +kernel
theorem d18_33 : decode method_3_code 33 = .ok (.iconst (-1), 1) := by decide +kernel
theorem d18_34 : decode method_3_code 34 = .ok (.ireturn, 1) := by decide +kernel
theorem pn18 : plainFor (⟨"com/example/clauseline/clauseline/service/TakenPiecesTakePinLaw", "expected", "(IIIII)I"⟩ : MethodName) = true := by first | (apply plainFor_of_name; simp [plainName, overriddenIn]; done) | decide +kernel
def Bexp : Bdy := (⟨"com/example/clauseline/clauseline/service/TakenPiecesTakePinLaw", "expected", "(IIIII)I"⟩, method_3_code, 6, (some .int), ({ frames := 1, cells := 0, slots := 0, locals := 13 } : Room))
theorem m_exp (Z : State) (a0 : Array Value) (hw : ∀ d ∈ tables_1, d.before a0 Z = true) (h0 : Heap) (ds : Mem) (p1 p2 p3 p4 p5 : Int32) (hr : 0 ≤ p2.toInt ∧ p2.toInt ≤ p3.toInt ∧ p3.toInt < p1.toInt ∧ p1.toInt ≤ 256 ∧ 0 ≤ p4.toInt ∧ p4.toInt < p1.toInt ∧ 0 < p5.toInt ∧ p5.toInt ≤ p1.toInt) :
    Met Bexp Z a0 h0 #[(.int p1), (.int p2), (.int p3), (.int p4), (.int p5)] ds (fun v ds' => ∃ z : Int32, v = some (.int z) ∧ ds = ds' ∧ Ex p2.toInt (p3.toInt + 1) p1.toInt p4.toInt p5.toInt z.toInt) := by
  refine Met.of pn18 (ls := #[.val (.int p1), .val (.int p2), .val (.int p3), .val (.int p4), .val (.int p5), .unset]) (fun m => by first | (simp [entryFrame, mkF, argsToLocals, Value.category, Bexp]; done) | rfl) ?_
  refine go_iloadN 1 rfl d18_0 rfl ?_
  refine go_iload 3 rfl d18_1 rfl ?_
  refine go_iadd 4 rfl d18_3 rfl ?_
  have fa1 : (p4 + p5).toInt = p4.toInt + p5.toInt := addE rfl rfl (by omega)
  refine go_iloadN 5 rfl d18_4 rfl ?_
  refine go_icmp 10 8 rfl (by decide) rfl d18_5 rfl (fun (hc5_108 : p2.toInt < (p4 + p5).toInt) => ?_) (fun (hc5_108 : ¬ (p2.toInt < (p4 + p5).toInt)) => ?_)
  · refine go_iloadN 11 rfl d18_10 rfl ?_
    refine go_iloadN 12 rfl d18_11 rfl ?_
    refine go_iconst (1 : Int32) 13 rfl d18_12 rfl ?_
    refine go_iadd 14 rfl d18_13 rfl ?_
    have fa2 : (p3 + (1 : Int32)).toInt = p3.toInt + (1 : Int) := addE rfl rfl (by omega)
    refine go_callS 17 rfl d18_14 (wd hw 5 rfl) (wd hw 6 rfl) (wd hw 3 rfl) (wd hw 7 rfl) (by decide) (m_max Z a0 hw h0 ds p4 (p3 + (1 : Int32))) (argsL := [(.int p4), (.int (p3 + (1 : Int32)))]) (rest := []) rfl (ps := [.int, .int]) (by decide +kernel) rfl rfl 0 rfl (by decide) (by decide) (by decide) (by decide) ?_
    rintro _ _ ⟨z9110, rfl, rfl, hz9110, gz9110⟩
    show Go Bexp Z a0 h0 _ 0 0 ds 17 #[.val (.int p1), .val (.int p2), .val (.int p3), .val (.int p4), .val (.int p5), .unset] [(.int z9110)]
    have kz9110 : z9110.toInt = p4.toInt ∨ z9110.toInt = (p3 + (1 : Int32)).toInt := by rcases gz9110 with h | h <;> rw [h] <;> simp
    refine go_istore #[.val (.int p1), .val (.int p2), .val (.int p3), .val (.int p4), .val (.int p5), .val (.int z9110)] 19 rfl d18_17 rfl rfl ?_
    refine go_iload 21 rfl d18_19 rfl ?_
    refine go_iload 23 rfl d18_21 rfl ?_
    refine go_iadd 24 rfl d18_23 rfl ?_
    have fa3 : (z9110 + p5).toInt = z9110.toInt + p5.toInt := addE rfl rfl (by omega)
    refine go_iloadN 25 rfl d18_24 rfl ?_
    refine go_icmp 33 28 rfl (by decide) rfl d18_25 rfl (fun (hc25_110 : p1.toInt < (z9110 + p5).toInt) => ?_) (fun (hc25_110 : ¬ (p1.toInt < (z9110 + p5).toInt)) => ?_)
    · refine go_iconst (-1 : Int32) 34 rfl d18_33 rfl ?_
      exact go_ireturn d18_34 rfl (Or.inl rfl) rfl rfl (by decide) (by decide) ⟨_, rfl, rfl, by unfold Ex; have e0_ : (-1 : Int32).toInt = -1 := rfl; omega⟩
    · refine go_iload 30 rfl d18_28 rfl ?_
      refine go_goto 34 (by decide) rfl d18_30 ?_
      exact go_ireturn d18_34 rfl (Or.inl rfl) rfl rfl (by decide) (by decide) ⟨_, rfl, rfl, by unfold Ex; omega⟩
  · refine go_iloadN 9 rfl d18_8 rfl ?_
    exact go_ireturn d18_9 rfl (Or.inl rfl) rfl rfl (by decide) (by decide) ⟨_, rfl, rfl, by unfold Ex; omega⟩
theorem pn0 : plainFor (⟨"com/example/clauseline/clauseline/service/TakenPiecesTakePinLaw", "law", "(IIIIII)Z"⟩ : MethodName) = true := by first | (apply plainFor_of_name; simp [plainName, overriddenIn]; done) | decide +kernel
def B0 : Bdy := (x, code, maxLocals, ret, room_1)
theorem law_met (Z : State) (a0 : Array Value) (hw : ∀ d ∈ tables_1, d.before a0 Z = true) (h0 : Heap) (p1 p2 p3 p4 p5 p6 : Int32) :
    Met B0 Z a0 h0 #[(.int p1), (.int p2), (.int p3), (.int p4), (.int p5), (.int p6)] [] (fun v _ => v = some (.int 1)) := by
  refine Met.of pn0 (ls := #[.val (.int p1), .val (.int p2), .val (.int p3), .val (.int p4), .val (.int p5), .val (.int p6), .unset, .unset, .unset, .unset, .unset, .unset, .unset, .unset, .unset, .unset, .unset]) (fun m => by first | (simp [entryFrame, mkF, argsToLocals, Value.category, B0, maxLocals]; done) | rfl) ?_
  refine go_iconst (1 : Int32) 1 rfl at_0 rfl ?_
  refine go_iloadN 2 rfl at_1 rfl ?_
  refine go_sipush (255 : Int32) 5 rfl at_2 rfl ?_
  refine go_iand 6 rfl at_5 rfl ?_
  have ga := c_and p1 (255 : Int32) (by decide)
  have gb : (255 : Int32).toInt = 255 := rfl
  refine go_iadd 7 rfl at_6 rfl ?_
  have fa1 : ((1 : Int32) + (p1 &&& (255 : Int32))).toInt = (1 : Int) + (p1 &&& (255 : Int32)).toInt := addE rfl rfl (by omega)
  have g10 : 1 ≤ ((1 : Int32) + (p1 &&& (255 : Int32))).toInt ∧ ((1 : Int32) + (p1 &&& (255 : Int32))).toInt ≤ 256 := by omega
  clear fa1
  generalize ((1 : Int32) + (p1 &&& (255 : Int32))) = p10 at g10 ⊢
  refine go_istore #[.val (.int p1), .val (.int p2), .val (.int p3), .val (.int p4), .val (.int p5), .val (.int p6), .val (.int p10), .unset, .unset, .unset, .unset, .unset, .unset, .unset, .unset, .unset, .unset] 9 rfl at_7 rfl rfl ?_
  refine go_iloadN 10 rfl at_9 rfl ?_
  refine go_ldc (v := (2147483647 : Int32)) 12 rfl at_10 (wd hw 0 rfl) ?_
  refine go_iand 13 rfl at_12 rfl ?_
  refine go_iload 15 rfl at_13 rfl ?_
  refine go_irem 16 rfl at_15 rfl (fun e => by rw [e] at g10; exact absurd g10.1 (by decide)) ?_
  have gp11 : 0 ≤ ((p2 &&& (2147483647 : Int32)) % p10).toInt ∧ ((p2 &&& (2147483647 : Int32)) % p10).toInt < p10.toInt := by
    have e1 := c_and p2 (2147483647 : Int32) (by decide); have e2 := c_iremV (p2 &&& (2147483647 : Int32)) p10; omega
  generalize ((p2 &&& (2147483647 : Int32)) % p10) = p11 at gp11 ⊢
  refine go_istore #[.val (.int p1), .val (.int p2), .val (.int p3), .val (.int p4), .val (.int p5), .val (.int p6), .val (.int p10), .val (.int p11), .unset, .unset, .unset, .unset, .unset, .unset, .unset, .unset, .unset] 18 rfl at_16 rfl rfl ?_
  refine go_iloadN 19 rfl at_18 rfl ?_
  refine go_ldc (v := (2147483647 : Int32)) 21 rfl at_19 (wd hw 0 rfl) ?_
  refine go_iand 22 rfl at_21 rfl ?_
  refine go_iload 24 rfl at_22 rfl ?_
  refine go_irem 25 rfl at_24 rfl (fun e => by rw [e] at g10; exact absurd g10.1 (by decide)) ?_
  have gp12 : 0 ≤ ((p3 &&& (2147483647 : Int32)) % p10).toInt ∧ ((p3 &&& (2147483647 : Int32)) % p10).toInt < p10.toInt := by
    have e1 := c_and p3 (2147483647 : Int32) (by decide); have e2 := c_iremV (p3 &&& (2147483647 : Int32)) p10; omega
  generalize ((p3 &&& (2147483647 : Int32)) % p10) = p12 at gp12 ⊢
  refine go_istore #[.val (.int p1), .val (.int p2), .val (.int p3), .val (.int p4), .val (.int p5), .val (.int p6), .val (.int p10), .val (.int p11), .val (.int p12), .unset, .unset, .unset, .unset, .unset, .unset, .unset, .unset] 27 rfl at_25 rfl rfl ?_
  refine go_iload 29 rfl at_27 rfl ?_
  refine go_iload 31 rfl at_29 rfl ?_
  refine go_callS 34 rfl at_31 (wd hw 1 rfl) (wd hw 2 rfl) (wd hw 3 rfl) (wd hw 4 rfl) (by decide) (m_min Z a0 hw h0 [] p11 p12) (argsL := [(.int p11), (.int p12)]) (rest := []) rfl (ps := [.int, .int]) (by decide +kernel) rfl rfl 0 rfl (by decide) (by decide) (by decide) (by decide) ?_
  rintro _ _ ⟨z9112, rfl, rfl, hz9112, gz9112⟩
  show Go B0 Z a0 h0 _ 0 0 [] 34 #[.val (.int p1), .val (.int p2), .val (.int p3), .val (.int p4), .val (.int p5), .val (.int p6), .val (.int p10), .val (.int p11), .val (.int p12), .unset, .unset, .unset, .unset, .unset, .unset, .unset, .unset] [(.int z9112)]
  have kz9112 : z9112.toInt = p11.toInt ∨ z9112.toInt = p12.toInt := by rcases gz9112 with h | h <;> rw [h] <;> simp
  refine go_istore #[.val (.int p1), .val (.int p2), .val (.int p3), .val (.int p4), .val (.int p5), .val (.int p6), .val (.int p10), .val (.int p11), .val (.int p12), .val (.int z9112), .unset, .unset, .unset, .unset, .unset, .unset, .unset] 36 rfl at_34 rfl rfl ?_
  refine go_iload 38 rfl at_36 rfl ?_
  refine go_iload 40 rfl at_38 rfl ?_
  refine go_callS 43 rfl at_40 (wd hw 5 rfl) (wd hw 6 rfl) (wd hw 3 rfl) (wd hw 7 rfl) (by decide) (m_max Z a0 hw h0 [] p11 p12) (argsL := [(.int p11), (.int p12)]) (rest := []) rfl (ps := [.int, .int]) (by decide +kernel) rfl rfl 0 rfl (by decide) (by decide) (by decide) (by decide) ?_
  rintro _ _ ⟨z9113, rfl, rfl, hz9113, gz9113⟩
  show Go B0 Z a0 h0 _ 0 0 [] 43 #[.val (.int p1), .val (.int p2), .val (.int p3), .val (.int p4), .val (.int p5), .val (.int p6), .val (.int p10), .val (.int p11), .val (.int p12), .val (.int z9112), .unset, .unset, .unset, .unset, .unset, .unset, .unset] [(.int z9113)]
  have kz9113 : z9113.toInt = p11.toInt ∨ z9113.toInt = p12.toInt := by rcases gz9113 with h | h <;> rw [h] <;> simp
  refine go_istore #[.val (.int p1), .val (.int p2), .val (.int p3), .val (.int p4), .val (.int p5), .val (.int p6), .val (.int p10), .val (.int p11), .val (.int p12), .val (.int z9112), .val (.int z9113), .unset, .unset, .unset, .unset, .unset, .unset] 45 rfl at_43 rfl rfl ?_
  refine go_iloadN 46 rfl at_45 rfl ?_
  refine go_ldc (v := (2147483647 : Int32)) 48 rfl at_46 (wd hw 0 rfl) ?_
  refine go_iand 49 rfl at_48 rfl ?_
  refine go_iload 51 rfl at_49 rfl ?_
  refine go_irem 52 rfl at_51 rfl (fun e => by rw [e] at g10; exact absurd g10.1 (by decide)) ?_
  have gp13 : 0 ≤ ((p4 &&& (2147483647 : Int32)) % p10).toInt ∧ ((p4 &&& (2147483647 : Int32)) % p10).toInt < p10.toInt := by
    have e1 := c_and p4 (2147483647 : Int32) (by decide); have e2 := c_iremV (p4 &&& (2147483647 : Int32)) p10; omega
  generalize ((p4 &&& (2147483647 : Int32)) % p10) = p13 at gp13 ⊢
  refine go_istore #[.val (.int p1), .val (.int p2), .val (.int p3), .val (.int p4), .val (.int p5), .val (.int p6), .val (.int p10), .val (.int p11), .val (.int p12), .val (.int z9112), .val (.int z9113), .val (.int p13), .unset, .unset, .unset, .unset, .unset] 54 rfl at_52 rfl rfl ?_
  refine go_iconst (1 : Int32) 55 rfl at_54 rfl ?_
  refine go_iload 57 rfl at_55 rfl ?_
  refine go_ldc (v := (2147483647 : Int32)) 59 rfl at_57 (wd hw 0 rfl) ?_
  refine go_iand 60 rfl at_59 rfl ?_
  refine go_iload 62 rfl at_60 rfl ?_
  refine go_irem 63 rfl at_62 rfl (fun e => by rw [e] at g10; exact absurd g10.1 (by decide)) ?_
  have gp14 : 0 ≤ ((p5 &&& (2147483647 : Int32)) % p10).toInt ∧ ((p5 &&& (2147483647 : Int32)) % p10).toInt < p10.toInt := by
    have e1 := c_and p5 (2147483647 : Int32) (by decide); have e2 := c_iremV (p5 &&& (2147483647 : Int32)) p10; omega
  generalize ((p5 &&& (2147483647 : Int32)) % p10) = p14 at gp14 ⊢
  refine go_iadd 64 rfl at_63 rfl ?_
  have fa2 : ((1 : Int32) + p14).toInt = (1 : Int) + p14.toInt := addE rfl rfl (by omega)
  refine go_istore #[.val (.int p1), .val (.int p2), .val (.int p3), .val (.int p4), .val (.int p5), .val (.int p6), .val (.int p10), .val (.int p11), .val (.int p12), .val (.int z9112), .val (.int z9113), .val (.int p13), .val (.int ((1 : Int32) + p14)), .unset, .unset, .unset, .unset] 66 rfl at_64 rfl rfl ?_
  refine go_iload 68 rfl at_66 rfl ?_
  refine go_ldc (v := (2147483647 : Int32)) 70 rfl at_68 (wd hw 0 rfl) ?_
  refine go_iand 71 rfl at_70 rfl ?_
  refine go_iload 73 rfl at_71 rfl ?_
  refine go_irem 74 rfl at_73 rfl (fun e => by rw [e] at g10; exact absurd g10.1 (by decide)) ?_
  have gp15 : 0 ≤ ((p6 &&& (2147483647 : Int32)) % p10).toInt ∧ ((p6 &&& (2147483647 : Int32)) % p10).toInt < p10.toInt := by
    have e1 := c_and p6 (2147483647 : Int32) (by decide); have e2 := c_iremV (p6 &&& (2147483647 : Int32)) p10; omega
  generalize ((p6 &&& (2147483647 : Int32)) % p10) = p15 at gp15 ⊢
  refine go_istore #[.val (.int p1), .val (.int p2), .val (.int p3), .val (.int p4), .val (.int p5), .val (.int p6), .val (.int p10), .val (.int p11), .val (.int p12), .val (.int z9112), .val (.int z9113), .val (.int p13), .val (.int ((1 : Int32) + p14)), .val (.int p15), .unset, .unset, .unset] 76 rfl at_74 rfl rfl ?_
  have e1_ : (1 : Int32).toInt = 1 := rfl
  have hW : (1 ≤ p10.toInt ∧ p10.toInt ≤ 64) ∨ (65 ≤ p10.toInt ∧ p10.toInt ≤ 128) ∨ (129 ≤ p10.toInt ∧ p10.toInt ≤ 256) := by omega
  rcases hW with hW | hW | hW
  · refine go_new 79 rfl at_76 (wd hw 8 rfl) (wd hw 9 rfl) (wd hw 10 rfl) (by decide) (by decide) [("com/example/clauseline/clauseline/service/TakenPieces", "words", "I", (.int (0 : Int32))), ("com/example/clauseline/clauseline/service/TakenPieces", "taken", "[J", .null), ("com/example/clauseline/clauseline/service/TakenPieces", "splits", "[J", .null), ("com/example/clauseline/clauseline/service/TakenPieces", "prefix", "[I", .null), ("com/example/clauseline/clauseline/service/TakenPieces", "suffix", "[I", .null), ("com/example/clauseline/clauseline/service/TakenPieces", "longest", "[I", .null), ("com/example/clauseline/clauseline/service/TakenPieces", "stale", "[Z", .null)] ⟨⟨Or.inr (wd hw 28 rfl), _, rfl, rfl⟩, ⟨⟨Or.inr (wd hw 31 rfl), _, rfl, rfl⟩, ⟨⟨Or.inr (wd hw 33 rfl), _, rfl, rfl⟩, ⟨⟨Or.inr (wd hw 36 rfl), _, rfl, rfl⟩, ⟨⟨Or.inr (wd hw 38 rfl), _, rfl, rfl⟩, ⟨⟨Or.inr (wd hw 40 rfl), _, rfl, rfl⟩, ⟨⟨Or.inr (wd hw 43 rfl), _, rfl, rfl⟩, trivial⟩⟩⟩⟩⟩⟩⟩ (by decide) (fun a1 => ?_)
    refine go_dup 80 rfl at_79 rfl rfl ?_
    refine go_iload 82 rfl at_80 rfl ?_
    refine go_callI 85 rfl at_82 rfl (wd hw 11 rfl) (wd hw 12 rfl) (wd hw 10 rfl) (wd hw 13 rfl) (by decide) (m_ini1 Z a0 hw h0 a1 p10 hW) (argsL := [(.int p10)]) (rest := [(.ref a1)]) rfl (ret := none) (ps := [.int]) (by decide +kernel) rfl rfl 1 rfl (by decide) (by decide) (by decide) (by decide) ?_
    rintro _ _ ⟨a2, a3, a4, a5, a6, a7, q0, z101, z201, z301, ⟨e0, s1⟩, rfl, rfl⟩
    show Go B0 Z a0 h0 _ 7 16 (M1 a1 a2 a3 a4 a5 a6 a7 q0 z101 z201 z301) 85 #[.val (.int p1), .val (.int p2), .val (.int p3), .val (.int p4), .val (.int p5), .val (.int p6), .val (.int p10), .val (.int p11), .val (.int p12), .val (.int z9112), .val (.int z9113), .val (.int p13), .val (.int ((1 : Int32) + p14)), .val (.int p15), .unset, .unset, .unset] [(.ref a1)]
    refine go_astore #[.val (.int p1), .val (.int p2), .val (.int p3), .val (.int p4), .val (.int p5), .val (.int p6), .val (.int p10), .val (.int p11), .val (.int p12), .val (.int z9112), .val (.int z9113), .val (.int p13), .val (.int ((1 : Int32) + p14)), .val (.int p15), .val (.ref a1), .unset, .unset] 87 rfl at_85 rfl rfl rfl ?_
    refine go_aload 89 rfl at_87 rfl rfl ?_
    refine go_iload 91 rfl at_89 rfl ?_
    refine go_iload 93 rfl at_91 rfl ?_
    refine go_callV 96 rfl at_93 (wd hw 62 rfl) (wd hw 63 rfl) (wd hw 65 rfl) (wd hw 64 rfl) (wd hw 10 rfl) (wd hw 66 rfl) (by decide) (Mo.exa (i := 0) rfl) (m_tk1 Z a0 hw h0 (P0 p10.toInt) a1 a2 a3 a4 a5 a6 a7 q0 z101 z201 z301 z9112 z9113 p10.toInt (by omega) (by omega) e0 s1) (argsL := [(.int z9112), (.int z9113)]) (rest := []) rfl (ps := [.int, .int]) (by decide +kernel) rfl rfl 0 rfl (by decide) (by decide) (by decide) (by decide) ?_
    rintro _ _ ⟨q80, z775, z776, z777, hV, rfl, rfl⟩
    show Go B0 Z a0 h0 _ 7 16 (M1 a1 a2 a3 a4 a5 a6 a7 q80 z775 z776 z777) 96 #[.val (.int p1), .val (.int p2), .val (.int p3), .val (.int p4), .val (.int p5), .val (.int p6), .val (.int p10), .val (.int p11), .val (.int p12), .val (.int z9112), .val (.int z9113), .val (.int p13), .val (.int ((1 : Int32) + p14)), .val (.int p15), .val (.ref a1), .unset, .unset] []
    refine go_aload 98 rfl at_96 rfl rfl ?_
    refine go_iload 100 rfl at_98 rfl ?_
    refine go_iload 102 rfl at_100 rfl ?_
    refine go_callV 105 rfl at_102 (wd hw 71 rfl) (wd hw 72 rfl) (wd hw 74 rfl) (wd hw 73 rfl) (wd hw 10 rfl) (wd hw 75 rfl) (by decide) (Mo.exa (i := 0) rfl) (m_ff1 Z a0 hw h0 (P1 z9112.toInt (z9113.toInt + 1) p10.toInt) a1 a2 a3 a4 a5 a6 a7 q80 z775 z776 z777 p13 ((1 : Int32) + p14) hV (by first | omega | decide) (by first | omega | decide) (by first | omega | decide) (fun x hx hq => by unfold P1 at hq; omega)) (argsL := [(.int p13), (.int ((1 : Int32) + p14))]) (rest := []) rfl (ps := [.int, .int]) (by decide +kernel) rfl rfl 0 rfl (by decide) (by decide) (by decide) (by decide) ?_
    rintro _ _ ⟨hVz778, z778, hz778, rfl, rfl⟩
    show Go B0 Z a0 h0 _ 7 16 (M1 a1 a2 a3 a4 a5 a6 a7 q80 z775 z776 z777) 105 #[.val (.int p1), .val (.int p2), .val (.int p3), .val (.int p4), .val (.int p5), .val (.int p6), .val (.int p10), .val (.int p11), .val (.int p12), .val (.int z9112), .val (.int z9113), .val (.int p13), .val (.int ((1 : Int32) + p14)), .val (.int p15), .val (.ref a1), .unset, .unset] [(.int z778)]
    refine go_istore #[.val (.int p1), .val (.int p2), .val (.int p3), .val (.int p4), .val (.int p5), .val (.int p6), .val (.int p10), .val (.int p11), .val (.int p12), .val (.int z9112), .val (.int z9113), .val (.int p13), .val (.int ((1 : Int32) + p14)), .val (.int p15), .val (.ref a1), .val (.int z778), .unset] 107 rfl at_105 rfl rfl ?_
    refine go_aload 109 rfl at_107 rfl rfl ?_
    refine go_iload 111 rfl at_109 rfl ?_
    refine go_iconst (1 : Int32) 112 rfl at_111 rfl ?_
    refine go_callV 115 rfl at_112 (wd hw 71 rfl) (wd hw 72 rfl) (wd hw 74 rfl) (wd hw 73 rfl) (wd hw 10 rfl) (wd hw 75 rfl) (by decide) (Mo.exa (i := 0) rfl) (m_ff1 Z a0 hw h0 (P1 z9112.toInt (z9113.toInt + 1) p10.toInt) a1 a2 a3 a4 a5 a6 a7 q80 z775 z776 z777 p15 (1 : Int32) hVz778 (by first | omega | decide) (by first | omega | decide) (by first | omega | decide) (fun x hx hq => by unfold P1 at hq; omega)) (argsL := [(.int p15), (.int (1 : Int32))]) (rest := []) rfl (ps := [.int, .int]) (by decide +kernel) rfl rfl 0 rfl (by decide) (by decide) (by decide) (by decide) ?_
    rintro _ _ ⟨hVz779, z779, hz779, rfl, rfl⟩
    show Go B0 Z a0 h0 _ 7 16 (M1 a1 a2 a3 a4 a5 a6 a7 q80 z775 z776 z777) 115 #[.val (.int p1), .val (.int p2), .val (.int p3), .val (.int p4), .val (.int p5), .val (.int p6), .val (.int p10), .val (.int p11), .val (.int p12), .val (.int z9112), .val (.int z9113), .val (.int p13), .val (.int ((1 : Int32) + p14)), .val (.int p15), .val (.ref a1), .val (.int z778), .unset] [(.int z779)]
    refine go_istore #[.val (.int p1), .val (.int p2), .val (.int p3), .val (.int p4), .val (.int p5), .val (.int p6), .val (.int p10), .val (.int p11), .val (.int p12), .val (.int z9112), .val (.int z9113), .val (.int p13), .val (.int ((1 : Int32) + p14)), .val (.int p15), .val (.ref a1), .val (.int z778), .val (.int z779)] 117 rfl at_115 rfl rfl ?_
    refine go_iload 119 rfl at_117 rfl ?_
    refine go_iload 121 rfl at_119 rfl ?_
    refine go_iload 123 rfl at_121 rfl ?_
    refine go_iload 125 rfl at_123 rfl ?_
    refine go_iload 127 rfl at_125 rfl ?_
    refine go_iload 129 rfl at_127 rfl ?_
    refine go_callS 132 rfl at_129 (wd hw 88 rfl) (wd hw 89 rfl) (wd hw 90 rfl) (wd hw 91 rfl) (by decide) (m_exp Z a0 hw h0 (M1 a1 a2 a3 a4 a5 a6 a7 q80 z775 z776 z777) p10 z9112 z9113 p13 ((1 : Int32) + p14) (by first | omega | decide)) (argsL := [(.int p10), (.int z9112), (.int z9113), (.int p13), (.int ((1 : Int32) + p14))]) (rest := [(.int z778)]) rfl (ps := [.int, .int, .int, .int, .int]) (by decide +kernel) rfl rfl 1 rfl (by decide) (by decide) (by decide) (by decide) ?_
    rintro _ _ ⟨z780, rfl, rfl, hz780⟩
    show Go B0 Z a0 h0 _ 7 16 (M1 a1 a2 a3 a4 a5 a6 a7 q80 z775 z776 z777) 132 #[.val (.int p1), .val (.int p2), .val (.int p3), .val (.int p4), .val (.int p5), .val (.int p6), .val (.int p10), .val (.int p11), .val (.int p12), .val (.int z9112), .val (.int z9113), .val (.int p13), .val (.int ((1 : Int32) + p14)), .val (.int p15), .val (.ref a1), .val (.int z778), .val (.int z779)] [(.int z780), (.int z778)]
    refine go_icmp 156 135 rfl (by decide) rfl at_132 rfl (fun (hc132 : z778.toInt ≠ z780.toInt) => absurd hc132 (by exact fun q => q (ans_ex (by first | omega | decide) (by first | omega | decide) (by omega) (by omega) hz778 hz780))) (fun (hc132 : ¬ (z778.toInt ≠ z780.toInt)) => ?_)
    refine go_iload 137 rfl at_135 rfl ?_
    refine go_iload 139 rfl at_137 rfl ?_
    refine go_iload 141 rfl at_139 rfl ?_
    refine go_iload 143 rfl at_141 rfl ?_
    refine go_iload 145 rfl at_143 rfl ?_
    refine go_iconst (1 : Int32) 146 rfl at_145 rfl ?_
    refine go_callS 149 rfl at_146 (wd hw 88 rfl) (wd hw 89 rfl) (wd hw 90 rfl) (wd hw 91 rfl) (by decide) (m_exp Z a0 hw h0 (M1 a1 a2 a3 a4 a5 a6 a7 q80 z775 z776 z777) p10 z9112 z9113 p15 (1 : Int32) (by first | omega | decide)) (argsL := [(.int p10), (.int z9112), (.int z9113), (.int p15), (.int (1 : Int32))]) (rest := [(.int z779)]) rfl (ps := [.int, .int, .int, .int, .int]) (by decide +kernel) rfl rfl 1 rfl (by decide) (by decide) (by decide) (by decide) ?_
    rintro _ _ ⟨z781, rfl, rfl, hz781⟩
    show Go B0 Z a0 h0 _ 7 16 (M1 a1 a2 a3 a4 a5 a6 a7 q80 z775 z776 z777) 149 #[.val (.int p1), .val (.int p2), .val (.int p3), .val (.int p4), .val (.int p5), .val (.int p6), .val (.int p10), .val (.int p11), .val (.int p12), .val (.int z9112), .val (.int z9113), .val (.int p13), .val (.int ((1 : Int32) + p14)), .val (.int p15), .val (.ref a1), .val (.int z778), .val (.int z779)] [(.int z781), (.int z779)]
    refine go_icmp 156 152 rfl (by decide) rfl at_149 rfl (fun (hc149 : z779.toInt ≠ z781.toInt) => absurd hc149 (by exact fun q => q (ans_ex (by first | omega | decide) (by first | omega | decide) (by omega) (by omega) hz779 hz781))) (fun (hc149 : ¬ (z779.toInt ≠ z781.toInt)) => ?_)
    refine go_iconst (1 : Int32) 153 rfl at_152 rfl ?_
    refine go_goto 157 (by decide) rfl at_153 ?_
    exact go_ireturn at_157 rfl (Or.inr (Or.inl rfl)) rfl rfl (by decide) (by decide) rfl
  · refine go_new 79 rfl at_76 (wd hw 8 rfl) (wd hw 9 rfl) (wd hw 10 rfl) (by decide) (by decide) [("com/example/clauseline/clauseline/service/TakenPieces", "words", "I", (.int (0 : Int32))), ("com/example/clauseline/clauseline/service/TakenPieces", "taken", "[J", .null), ("com/example/clauseline/clauseline/service/TakenPieces", "splits", "[J", .null), ("com/example/clauseline/clauseline/service/TakenPieces", "prefix", "[I", .null), ("com/example/clauseline/clauseline/service/TakenPieces", "suffix", "[I", .null), ("com/example/clauseline/clauseline/service/TakenPieces", "longest", "[I", .null), ("com/example/clauseline/clauseline/service/TakenPieces", "stale", "[Z", .null)] ⟨⟨Or.inr (wd hw 28 rfl), _, rfl, rfl⟩, ⟨⟨Or.inr (wd hw 31 rfl), _, rfl, rfl⟩, ⟨⟨Or.inr (wd hw 33 rfl), _, rfl, rfl⟩, ⟨⟨Or.inr (wd hw 36 rfl), _, rfl, rfl⟩, ⟨⟨Or.inr (wd hw 38 rfl), _, rfl, rfl⟩, ⟨⟨Or.inr (wd hw 40 rfl), _, rfl, rfl⟩, ⟨⟨Or.inr (wd hw 43 rfl), _, rfl, rfl⟩, trivial⟩⟩⟩⟩⟩⟩⟩ (by decide) (fun a1 => ?_)
    refine go_dup 80 rfl at_79 rfl rfl ?_
    refine go_iload 82 rfl at_80 rfl ?_
    refine go_callI 85 rfl at_82 rfl (wd hw 11 rfl) (wd hw 12 rfl) (wd hw 10 rfl) (wd hw 13 rfl) (by decide) (m_ini2 Z a0 hw h0 a1 p10 hW) (argsL := [(.int p10)]) (rest := [(.ref a1)]) rfl (ret := none) (ps := [.int]) (by decide +kernel) rfl rfl 1 rfl (by decide) (by decide) (by decide) (by decide) ?_
    rintro _ _ ⟨a2, a3, a4, a5, a6, a7, q0, q1, z101, z201, z301, z102, z202, z302, z103, z203, z303, ⟨e0, e1, s1, s2, s3⟩, rfl, rfl⟩
    show Go B0 Z a0 h0 _ 7 25 (M2 a1 a2 a3 a4 a5 a6 a7 q0 q1 z101 z201 z301 z102 z202 z302 z103 z203 z303 (0 : Int32)) 85 #[.val (.int p1), .val (.int p2), .val (.int p3), .val (.int p4), .val (.int p5), .val (.int p6), .val (.int p10), .val (.int p11), .val (.int p12), .val (.int z9112), .val (.int z9113), .val (.int p13), .val (.int ((1 : Int32) + p14)), .val (.int p15), .unset, .unset, .unset] [(.ref a1)]
    refine go_astore #[.val (.int p1), .val (.int p2), .val (.int p3), .val (.int p4), .val (.int p5), .val (.int p6), .val (.int p10), .val (.int p11), .val (.int p12), .val (.int z9112), .val (.int z9113), .val (.int p13), .val (.int ((1 : Int32) + p14)), .val (.int p15), .val (.ref a1), .unset, .unset] 87 rfl at_85 rfl rfl rfl ?_
    refine go_aload 89 rfl at_87 rfl rfl ?_
    refine go_iload 91 rfl at_89 rfl ?_
    refine go_iload 93 rfl at_91 rfl ?_
    refine go_callV 96 rfl at_93 (wd hw 62 rfl) (wd hw 63 rfl) (wd hw 65 rfl) (wd hw 64 rfl) (wd hw 10 rfl) (wd hw 66 rfl) (by decide) (Mo.exa (i := 0) rfl) (m_tk2 Z a0 hw h0 (P0 p10.toInt) a1 a2 a3 a4 a5 a6 a7 q0 q1 z101 z201 z301 z102 z202 z302 z103 z203 z303 z9112 z9113 p10.toInt (by omega) (by omega) e0 e1 s1 s2 s3) (argsL := [(.int z9112), (.int z9113)]) (rest := []) rfl (ps := [.int, .int]) (by decide +kernel) rfl rfl 0 rfl (by decide) (by decide) (by decide) (by decide) ?_
    rintro _ _ ⟨q80, q81, z782, z783, z784, z785, z786, z787, z788, hV, rfl, rfl⟩
    show Go B0 Z a0 h0 _ 7 25 (M2 a1 a2 a3 a4 a5 a6 a7 q80 q81 z101 z201 z301 z782 z783 z784 z785 z786 z787 z788) 96 #[.val (.int p1), .val (.int p2), .val (.int p3), .val (.int p4), .val (.int p5), .val (.int p6), .val (.int p10), .val (.int p11), .val (.int p12), .val (.int z9112), .val (.int z9113), .val (.int p13), .val (.int ((1 : Int32) + p14)), .val (.int p15), .val (.ref a1), .unset, .unset] []
    refine go_aload 98 rfl at_96 rfl rfl ?_
    refine go_iload 100 rfl at_98 rfl ?_
    refine go_iload 102 rfl at_100 rfl ?_
    refine go_callV 105 rfl at_102 (wd hw 71 rfl) (wd hw 72 rfl) (wd hw 74 rfl) (wd hw 73 rfl) (wd hw 10 rfl) (wd hw 75 rfl) (by decide) (Mo.exa (i := 0) rfl) (m_ff2 Z a0 hw h0 (P1 z9112.toInt (z9113.toInt + 1) p10.toInt) a1 a2 a3 a4 a5 a6 a7 q80 q81 z101 z201 z301 z782 z783 z784 z785 z786 z787 z788 p13 ((1 : Int32) + p14) hV (by first | omega | decide) (by first | omega | decide) (by first | omega | decide) (fun x hx hq => by unfold P1 at hq; omega)) (argsL := [(.int p13), (.int ((1 : Int32) + p14))]) (rest := []) rfl (ps := [.int, .int]) (by decide +kernel) rfl rfl 0 rfl (by decide) (by decide) (by decide) (by decide) ?_
    rintro _ _ ⟨z789, z790, z791, z792, hVz793, z793, hz793, rfl, rfl⟩
    show Go B0 Z a0 h0 _ 7 25 (M2 a1 a2 a3 a4 a5 a6 a7 q80 q81 z789 z790 z791 z782 z783 z784 z785 z786 z787 z792) 105 #[.val (.int p1), .val (.int p2), .val (.int p3), .val (.int p4), .val (.int p5), .val (.int p6), .val (.int p10), .val (.int p11), .val (.int p12), .val (.int z9112), .val (.int z9113), .val (.int p13), .val (.int ((1 : Int32) + p14)), .val (.int p15), .val (.ref a1), .unset, .unset] [(.int z793)]
    refine go_istore #[.val (.int p1), .val (.int p2), .val (.int p3), .val (.int p4), .val (.int p5), .val (.int p6), .val (.int p10), .val (.int p11), .val (.int p12), .val (.int z9112), .val (.int z9113), .val (.int p13), .val (.int ((1 : Int32) + p14)), .val (.int p15), .val (.ref a1), .val (.int z793), .unset] 107 rfl at_105 rfl rfl ?_
    refine go_aload 109 rfl at_107 rfl rfl ?_
    refine go_iload 111 rfl at_109 rfl ?_
    refine go_iconst (1 : Int32) 112 rfl at_111 rfl ?_
    refine go_callV 115 rfl at_112 (wd hw 71 rfl) (wd hw 72 rfl) (wd hw 74 rfl) (wd hw 73 rfl) (wd hw 10 rfl) (wd hw 75 rfl) (by decide) (Mo.exa (i := 0) rfl) (m_ff2 Z a0 hw h0 (P1 z9112.toInt (z9113.toInt + 1) p10.toInt) a1 a2 a3 a4 a5 a6 a7 q80 q81 z789 z790 z791 z782 z783 z784 z785 z786 z787 z792 p15 (1 : Int32) hVz793 (by first | omega | decide) (by first | omega | decide) (by first | omega | decide) (fun x hx hq => by unfold P1 at hq; omega)) (argsL := [(.int p15), (.int (1 : Int32))]) (rest := []) rfl (ps := [.int, .int]) (by decide +kernel) rfl rfl 0 rfl (by decide) (by decide) (by decide) (by decide) ?_
    rintro _ _ ⟨z794, z795, z796, z797, hVz798, z798, hz798, rfl, rfl⟩
    show Go B0 Z a0 h0 _ 7 25 (M2 a1 a2 a3 a4 a5 a6 a7 q80 q81 z794 z795 z796 z782 z783 z784 z785 z786 z787 z797) 115 #[.val (.int p1), .val (.int p2), .val (.int p3), .val (.int p4), .val (.int p5), .val (.int p6), .val (.int p10), .val (.int p11), .val (.int p12), .val (.int z9112), .val (.int z9113), .val (.int p13), .val (.int ((1 : Int32) + p14)), .val (.int p15), .val (.ref a1), .val (.int z793), .unset] [(.int z798)]
    refine go_istore #[.val (.int p1), .val (.int p2), .val (.int p3), .val (.int p4), .val (.int p5), .val (.int p6), .val (.int p10), .val (.int p11), .val (.int p12), .val (.int z9112), .val (.int z9113), .val (.int p13), .val (.int ((1 : Int32) + p14)), .val (.int p15), .val (.ref a1), .val (.int z793), .val (.int z798)] 117 rfl at_115 rfl rfl ?_
    refine go_iload 119 rfl at_117 rfl ?_
    refine go_iload 121 rfl at_119 rfl ?_
    refine go_iload 123 rfl at_121 rfl ?_
    refine go_iload 125 rfl at_123 rfl ?_
    refine go_iload 127 rfl at_125 rfl ?_
    refine go_iload 129 rfl at_127 rfl ?_
    refine go_callS 132 rfl at_129 (wd hw 88 rfl) (wd hw 89 rfl) (wd hw 90 rfl) (wd hw 91 rfl) (by decide) (m_exp Z a0 hw h0 (M2 a1 a2 a3 a4 a5 a6 a7 q80 q81 z794 z795 z796 z782 z783 z784 z785 z786 z787 z797) p10 z9112 z9113 p13 ((1 : Int32) + p14) (by first | omega | decide)) (argsL := [(.int p10), (.int z9112), (.int z9113), (.int p13), (.int ((1 : Int32) + p14))]) (rest := [(.int z793)]) rfl (ps := [.int, .int, .int, .int, .int]) (by decide +kernel) rfl rfl 1 rfl (by decide) (by decide) (by decide) (by decide) ?_
    rintro _ _ ⟨z799, rfl, rfl, hz799⟩
    show Go B0 Z a0 h0 _ 7 25 (M2 a1 a2 a3 a4 a5 a6 a7 q80 q81 z794 z795 z796 z782 z783 z784 z785 z786 z787 z797) 132 #[.val (.int p1), .val (.int p2), .val (.int p3), .val (.int p4), .val (.int p5), .val (.int p6), .val (.int p10), .val (.int p11), .val (.int p12), .val (.int z9112), .val (.int z9113), .val (.int p13), .val (.int ((1 : Int32) + p14)), .val (.int p15), .val (.ref a1), .val (.int z793), .val (.int z798)] [(.int z799), (.int z793)]
    refine go_icmp 156 135 rfl (by decide) rfl at_132 rfl (fun (hc132 : z793.toInt ≠ z799.toInt) => absurd hc132 (by exact fun q => q (ans_ex (by first | omega | decide) (by first | omega | decide) (by omega) (by omega) hz793 hz799))) (fun (hc132 : ¬ (z793.toInt ≠ z799.toInt)) => ?_)
    refine go_iload 137 rfl at_135 rfl ?_
    refine go_iload 139 rfl at_137 rfl ?_
    refine go_iload 141 rfl at_139 rfl ?_
    refine go_iload 143 rfl at_141 rfl ?_
    refine go_iload 145 rfl at_143 rfl ?_
    refine go_iconst (1 : Int32) 146 rfl at_145 rfl ?_
    refine go_callS 149 rfl at_146 (wd hw 88 rfl) (wd hw 89 rfl) (wd hw 90 rfl) (wd hw 91 rfl) (by decide) (m_exp Z a0 hw h0 (M2 a1 a2 a3 a4 a5 a6 a7 q80 q81 z794 z795 z796 z782 z783 z784 z785 z786 z787 z797) p10 z9112 z9113 p15 (1 : Int32) (by first | omega | decide)) (argsL := [(.int p10), (.int z9112), (.int z9113), (.int p15), (.int (1 : Int32))]) (rest := [(.int z798)]) rfl (ps := [.int, .int, .int, .int, .int]) (by decide +kernel) rfl rfl 1 rfl (by decide) (by decide) (by decide) (by decide) ?_
    rintro _ _ ⟨z800, rfl, rfl, hz800⟩
    show Go B0 Z a0 h0 _ 7 25 (M2 a1 a2 a3 a4 a5 a6 a7 q80 q81 z794 z795 z796 z782 z783 z784 z785 z786 z787 z797) 149 #[.val (.int p1), .val (.int p2), .val (.int p3), .val (.int p4), .val (.int p5), .val (.int p6), .val (.int p10), .val (.int p11), .val (.int p12), .val (.int z9112), .val (.int z9113), .val (.int p13), .val (.int ((1 : Int32) + p14)), .val (.int p15), .val (.ref a1), .val (.int z793), .val (.int z798)] [(.int z800), (.int z798)]
    refine go_icmp 156 152 rfl (by decide) rfl at_149 rfl (fun (hc149 : z798.toInt ≠ z800.toInt) => absurd hc149 (by exact fun q => q (ans_ex (by first | omega | decide) (by first | omega | decide) (by omega) (by omega) hz798 hz800))) (fun (hc149 : ¬ (z798.toInt ≠ z800.toInt)) => ?_)
    refine go_iconst (1 : Int32) 153 rfl at_152 rfl ?_
    refine go_goto 157 (by decide) rfl at_153 ?_
    exact go_ireturn at_157 rfl (Or.inr (Or.inl rfl)) rfl rfl (by decide) (by decide) rfl
  · refine go_new 79 rfl at_76 (wd hw 8 rfl) (wd hw 9 rfl) (wd hw 10 rfl) (by decide) (by decide) [("com/example/clauseline/clauseline/service/TakenPieces", "words", "I", (.int (0 : Int32))), ("com/example/clauseline/clauseline/service/TakenPieces", "taken", "[J", .null), ("com/example/clauseline/clauseline/service/TakenPieces", "splits", "[J", .null), ("com/example/clauseline/clauseline/service/TakenPieces", "prefix", "[I", .null), ("com/example/clauseline/clauseline/service/TakenPieces", "suffix", "[I", .null), ("com/example/clauseline/clauseline/service/TakenPieces", "longest", "[I", .null), ("com/example/clauseline/clauseline/service/TakenPieces", "stale", "[Z", .null)] ⟨⟨Or.inr (wd hw 28 rfl), _, rfl, rfl⟩, ⟨⟨Or.inr (wd hw 31 rfl), _, rfl, rfl⟩, ⟨⟨Or.inr (wd hw 33 rfl), _, rfl, rfl⟩, ⟨⟨Or.inr (wd hw 36 rfl), _, rfl, rfl⟩, ⟨⟨Or.inr (wd hw 38 rfl), _, rfl, rfl⟩, ⟨⟨Or.inr (wd hw 40 rfl), _, rfl, rfl⟩, ⟨⟨Or.inr (wd hw 43 rfl), _, rfl, rfl⟩, trivial⟩⟩⟩⟩⟩⟩⟩ (by decide) (fun a1 => ?_)
    refine go_dup 80 rfl at_79 rfl rfl ?_
    refine go_iload 82 rfl at_80 rfl ?_
    refine go_callI 85 rfl at_82 rfl (wd hw 11 rfl) (wd hw 12 rfl) (wd hw 10 rfl) (wd hw 13 rfl) (by decide) (m_ini4 Z a0 hw h0 a1 p10 hW) (argsL := [(.int p10)]) (rest := [(.ref a1)]) rfl (ret := none) (ps := [.int]) (by decide +kernel) rfl rfl 1 rfl (by decide) (by decide) (by decide) (by decide) ?_
    rintro _ _ ⟨a2, a3, a4, a5, a6, a7, q0, q1, q2, q3, z101, z201, z301, z102, z202, z302, z103, z203, z303, z104, z204, z304, z105, z205, z305, z106, z206, z306, z107, z207, z307, ⟨e0, e1, e2, e3, s1, s2, s3, s4, s5, s6, s7⟩, rfl, rfl⟩
    show Go B0 Z a0 h0 _ 7 43 (M4 a1 a2 a3 a4 a5 a6 a7 q0 q1 q2 q3 z101 z201 z301 z102 z202 z302 z103 z203 z303 z104 z204 z304 z105 z205 z305 z106 z206 z306 z107 z207 z307 (0 : Int32) (0 : Int32) (0 : Int32)) 85 #[.val (.int p1), .val (.int p2), .val (.int p3), .val (.int p4), .val (.int p5), .val (.int p6), .val (.int p10), .val (.int p11), .val (.int p12), .val (.int z9112), .val (.int z9113), .val (.int p13), .val (.int ((1 : Int32) + p14)), .val (.int p15), .unset, .unset, .unset] [(.ref a1)]
    refine go_astore #[.val (.int p1), .val (.int p2), .val (.int p3), .val (.int p4), .val (.int p5), .val (.int p6), .val (.int p10), .val (.int p11), .val (.int p12), .val (.int z9112), .val (.int z9113), .val (.int p13), .val (.int ((1 : Int32) + p14)), .val (.int p15), .val (.ref a1), .unset, .unset] 87 rfl at_85 rfl rfl rfl ?_
    refine go_aload 89 rfl at_87 rfl rfl ?_
    refine go_iload 91 rfl at_89 rfl ?_
    refine go_iload 93 rfl at_91 rfl ?_
    refine go_callV 96 rfl at_93 (wd hw 62 rfl) (wd hw 63 rfl) (wd hw 65 rfl) (wd hw 64 rfl) (wd hw 10 rfl) (wd hw 66 rfl) (by decide) (Mo.exa (i := 0) rfl) (m_tk4 Z a0 hw h0 (P0 p10.toInt) a1 a2 a3 a4 a5 a6 a7 q0 q1 q2 q3 z101 z201 z301 z102 z202 z302 z103 z203 z303 z104 z204 z304 z105 z205 z305 z106 z206 z306 z107 z207 z307 z9112 z9113 p10.toInt (by omega) (by omega) e0 e1 e2 e3 s1 s2 s3 s4 s5 s6 s7) (argsL := [(.int z9112), (.int z9113)]) (rest := []) rfl (ps := [.int, .int]) (by decide +kernel) rfl rfl 0 rfl (by decide) (by decide) (by decide) (by decide) ?_
    rintro _ _ ⟨q80, q81, q82, q83, z801, z802, z803, z804, z805, z806, z807, z808, z809, z810, z811, z812, z813, z814, z815, hV, rfl, rfl⟩
    show Go B0 Z a0 h0 _ 7 43 (M4 a1 a2 a3 a4 a5 a6 a7 q80 q81 q82 q83 z101 z201 z301 z102 z202 z302 z103 z203 z303 z801 z802 z803 z804 z805 z806 z807 z808 z809 z810 z811 z812 z813 z814 z815) 96 #[.val (.int p1), .val (.int p2), .val (.int p3), .val (.int p4), .val (.int p5), .val (.int p6), .val (.int p10), .val (.int p11), .val (.int p12), .val (.int z9112), .val (.int z9113), .val (.int p13), .val (.int ((1 : Int32) + p14)), .val (.int p15), .val (.ref a1), .unset, .unset] []
    refine go_aload 98 rfl at_96 rfl rfl ?_
    refine go_iload 100 rfl at_98 rfl ?_
    refine go_iload 102 rfl at_100 rfl ?_
    refine go_callV 105 rfl at_102 (wd hw 71 rfl) (wd hw 72 rfl) (wd hw 74 rfl) (wd hw 73 rfl) (wd hw 10 rfl) (wd hw 75 rfl) (by decide) (Mo.exa (i := 0) rfl) (m_ff4 Z a0 hw h0 (P1 z9112.toInt (z9113.toInt + 1) p10.toInt) a1 a2 a3 a4 a5 a6 a7 q80 q81 q82 q83 z101 z201 z301 z102 z202 z302 z103 z203 z303 z801 z802 z803 z804 z805 z806 z807 z808 z809 z810 z811 z812 z813 z814 z815 p13 ((1 : Int32) + p14) hV (by first | omega | decide) (by first | omega | decide) (by first | omega | decide) (fun x hx hq => by unfold P1 at hq; omega)) (argsL := [(.int p13), (.int ((1 : Int32) + p14))]) (rest := []) rfl (ps := [.int, .int]) (by decide +kernel) rfl rfl 0 rfl (by decide) (by decide) (by decide) (by decide) ?_
    rintro _ _ ⟨z816, z817, z818, z825, z819, z820, z821, z826, z822, z823, z824, z827, hVz828, z828, hz828, rfl, rfl⟩
    show Go B0 Z a0 h0 _ 7 43 (M4 a1 a2 a3 a4 a5 a6 a7 q80 q81 q82 q83 z816 z817 z818 z819 z820 z821 z822 z823 z824 z801 z802 z803 z804 z805 z806 z807 z808 z809 z810 z811 z812 z825 z826 z827) 105 #[.val (.int p1), .val (.int p2), .val (.int p3), .val (.int p4), .val (.int p5), .val (.int p6), .val (.int p10), .val (.int p11), .val (.int p12), .val (.int z9112), .val (.int z9113), .val (.int p13), .val (.int ((1 : Int32) + p14)), .val (.int p15), .val (.ref a1), .unset, .unset] [(.int z828)]
    refine go_istore #[.val (.int p1), .val (.int p2), .val (.int p3), .val (.int p4), .val (.int p5), .val (.int p6), .val (.int p10), .val (.int p11), .val (.int p12), .val (.int z9112), .val (.int z9113), .val (.int p13), .val (.int ((1 : Int32) + p14)), .val (.int p15), .val (.ref a1), .val (.int z828), .unset] 107 rfl at_105 rfl rfl ?_
    refine go_aload 109 rfl at_107 rfl rfl ?_
    refine go_iload 111 rfl at_109 rfl ?_
    refine go_iconst (1 : Int32) 112 rfl at_111 rfl ?_
    refine go_callV 115 rfl at_112 (wd hw 71 rfl) (wd hw 72 rfl) (wd hw 74 rfl) (wd hw 73 rfl) (wd hw 10 rfl) (wd hw 75 rfl) (by decide) (Mo.exa (i := 0) rfl) (m_ff4 Z a0 hw h0 (P1 z9112.toInt (z9113.toInt + 1) p10.toInt) a1 a2 a3 a4 a5 a6 a7 q80 q81 q82 q83 z816 z817 z818 z819 z820 z821 z822 z823 z824 z801 z802 z803 z804 z805 z806 z807 z808 z809 z810 z811 z812 z825 z826 z827 p15 (1 : Int32) hVz828 (by first | omega | decide) (by first | omega | decide) (by first | omega | decide) (fun x hx hq => by unfold P1 at hq; omega)) (argsL := [(.int p15), (.int (1 : Int32))]) (rest := []) rfl (ps := [.int, .int]) (by decide +kernel) rfl rfl 0 rfl (by decide) (by decide) (by decide) (by decide) ?_
    rintro _ _ ⟨z829, z830, z831, z838, z832, z833, z834, z839, z835, z836, z837, z840, hVz841, z841, hz841, rfl, rfl⟩
    show Go B0 Z a0 h0 _ 7 43 (M4 a1 a2 a3 a4 a5 a6 a7 q80 q81 q82 q83 z829 z830 z831 z832 z833 z834 z835 z836 z837 z801 z802 z803 z804 z805 z806 z807 z808 z809 z810 z811 z812 z838 z839 z840) 115 #[.val (.int p1), .val (.int p2), .val (.int p3), .val (.int p4), .val (.int p5), .val (.int p6), .val (.int p10), .val (.int p11), .val (.int p12), .val (.int z9112), .val (.int z9113), .val (.int p13), .val (.int ((1 : Int32) + p14)), .val (.int p15), .val (.ref a1), .val (.int z828), .unset] [(.int z841)]
    refine go_istore #[.val (.int p1), .val (.int p2), .val (.int p3), .val (.int p4), .val (.int p5), .val (.int p6), .val (.int p10), .val (.int p11), .val (.int p12), .val (.int z9112), .val (.int z9113), .val (.int p13), .val (.int ((1 : Int32) + p14)), .val (.int p15), .val (.ref a1), .val (.int z828), .val (.int z841)] 117 rfl at_115 rfl rfl ?_
    refine go_iload 119 rfl at_117 rfl ?_
    refine go_iload 121 rfl at_119 rfl ?_
    refine go_iload 123 rfl at_121 rfl ?_
    refine go_iload 125 rfl at_123 rfl ?_
    refine go_iload 127 rfl at_125 rfl ?_
    refine go_iload 129 rfl at_127 rfl ?_
    refine go_callS 132 rfl at_129 (wd hw 88 rfl) (wd hw 89 rfl) (wd hw 90 rfl) (wd hw 91 rfl) (by decide) (m_exp Z a0 hw h0 (M4 a1 a2 a3 a4 a5 a6 a7 q80 q81 q82 q83 z829 z830 z831 z832 z833 z834 z835 z836 z837 z801 z802 z803 z804 z805 z806 z807 z808 z809 z810 z811 z812 z838 z839 z840) p10 z9112 z9113 p13 ((1 : Int32) + p14) (by first | omega | decide)) (argsL := [(.int p10), (.int z9112), (.int z9113), (.int p13), (.int ((1 : Int32) + p14))]) (rest := [(.int z828)]) rfl (ps := [.int, .int, .int, .int, .int]) (by decide +kernel) rfl rfl 1 rfl (by decide) (by decide) (by decide) (by decide) ?_
    rintro _ _ ⟨z842, rfl, rfl, hz842⟩
    show Go B0 Z a0 h0 _ 7 43 (M4 a1 a2 a3 a4 a5 a6 a7 q80 q81 q82 q83 z829 z830 z831 z832 z833 z834 z835 z836 z837 z801 z802 z803 z804 z805 z806 z807 z808 z809 z810 z811 z812 z838 z839 z840) 132 #[.val (.int p1), .val (.int p2), .val (.int p3), .val (.int p4), .val (.int p5), .val (.int p6), .val (.int p10), .val (.int p11), .val (.int p12), .val (.int z9112), .val (.int z9113), .val (.int p13), .val (.int ((1 : Int32) + p14)), .val (.int p15), .val (.ref a1), .val (.int z828), .val (.int z841)] [(.int z842), (.int z828)]
    refine go_icmp 156 135 rfl (by decide) rfl at_132 rfl (fun (hc132 : z828.toInt ≠ z842.toInt) => absurd hc132 (by exact fun q => q (ans_ex (by first | omega | decide) (by first | omega | decide) (by omega) (by omega) hz828 hz842))) (fun (hc132 : ¬ (z828.toInt ≠ z842.toInt)) => ?_)
    refine go_iload 137 rfl at_135 rfl ?_
    refine go_iload 139 rfl at_137 rfl ?_
    refine go_iload 141 rfl at_139 rfl ?_
    refine go_iload 143 rfl at_141 rfl ?_
    refine go_iload 145 rfl at_143 rfl ?_
    refine go_iconst (1 : Int32) 146 rfl at_145 rfl ?_
    refine go_callS 149 rfl at_146 (wd hw 88 rfl) (wd hw 89 rfl) (wd hw 90 rfl) (wd hw 91 rfl) (by decide) (m_exp Z a0 hw h0 (M4 a1 a2 a3 a4 a5 a6 a7 q80 q81 q82 q83 z829 z830 z831 z832 z833 z834 z835 z836 z837 z801 z802 z803 z804 z805 z806 z807 z808 z809 z810 z811 z812 z838 z839 z840) p10 z9112 z9113 p15 (1 : Int32) (by first | omega | decide)) (argsL := [(.int p10), (.int z9112), (.int z9113), (.int p15), (.int (1 : Int32))]) (rest := [(.int z841)]) rfl (ps := [.int, .int, .int, .int, .int]) (by decide +kernel) rfl rfl 1 rfl (by decide) (by decide) (by decide) (by decide) ?_
    rintro _ _ ⟨z843, rfl, rfl, hz843⟩
    show Go B0 Z a0 h0 _ 7 43 (M4 a1 a2 a3 a4 a5 a6 a7 q80 q81 q82 q83 z829 z830 z831 z832 z833 z834 z835 z836 z837 z801 z802 z803 z804 z805 z806 z807 z808 z809 z810 z811 z812 z838 z839 z840) 149 #[.val (.int p1), .val (.int p2), .val (.int p3), .val (.int p4), .val (.int p5), .val (.int p6), .val (.int p10), .val (.int p11), .val (.int p12), .val (.int z9112), .val (.int z9113), .val (.int p13), .val (.int ((1 : Int32) + p14)), .val (.int p15), .val (.ref a1), .val (.int z828), .val (.int z841)] [(.int z843), (.int z841)]
    refine go_icmp 156 152 rfl (by decide) rfl at_149 rfl (fun (hc149 : z841.toInt ≠ z843.toInt) => absurd hc149 (by exact fun q => q (ans_ex (by first | omega | decide) (by first | omega | decide) (by omega) (by omega) hz841 hz843))) (fun (hc149 : ¬ (z841.toInt ≠ z843.toInt)) => ?_)
    refine go_iconst (1 : Int32) 153 rfl at_152 rfl ?_
    refine go_goto 157 (by decide) rfl at_153 ?_
    exact go_ireturn at_157 rfl (Or.inr (Or.inl rfl)) rfl rfl (by decide) (by decide) rfl
theorem comes_1 {Post : Tables → Env → Array Value → State → Outcome → State → Prop} (hpost : ∀ tb e args s v u, (limb_1_1.after args s (.returned v) u = true ∧ limb_1_2.after args s (.returned v) u = true ∧ True) → FrameEnd s (.returned v) u (Jvm.fieldLocs frame_1_writes args s ++ Jvm.arrayLocs frame_1_arrays args s ++ Jvm.staticLocs frame_1_statics s) 24 192 → Post tb e args s (.returned v) u) :
    ArmFor flags0 classFile x code maxLocals ret World_1 tables_1 room_1 Calls_1 rest_1 Pre_1 Post := by
  intro l hfl _ _ p e ha hc hk s m args below hf hA hF happ hP
  obtain ⟨hcalls, hrest, hpre⟩ := hP
  obtain ⟨-, -, -, hnamed, -, -, -, hat⟩ := (Spec.applies_iff hf).mp happ
  obtain ⟨hg, hn⟩ := and_e (Cond.before_iff.mp (show (Jvm.Cond.and given_1 narrow_1).before args s = true from hpre))
  obtain ⟨g0, r0⟩ := and_e hg
  obtain ⟨g1, r1⟩ := and_e r0
  obtain ⟨g2, r2⟩ := and_e r1
  obtain ⟨g3, r3⟩ := and_e r2
  obtain ⟨g4, r4⟩ := and_e r3
  obtain ⟨g5, r5⟩ := and_e r4
  obtain ⟨w0, w1, w2, w3, w4, w5, rfl⟩ : ∃ w0 w1 w2 w3 w4 w5 : Value, args = #[w0, w1, w2, w3, w4, w5] := by
    have hs : args.size = 6 := by simpa [Cond.value, given_1] using g0
    obtain ⟨L⟩ := args
    match L, hs with
    | [w0, w1, w2, w3, w4, w5], _ => exact ⟨w0, w1, w2, w3, w4, w5, rfl⟩
  have hw := fun d (hd : d ∈ tables_1) => atoms_spec (ws := Jvm.Cond.code x code maxLocals ret :: tables_1) hat d (List.mem_cons_of_mem _ hd)
  have hfit : Fit s := fun {y c} hc i hi => by
    obtain ⟨ha, rfl⟩ := Array.getElem?_eq_some_iff.mp hc
    have q := List.all_eq_true.mp ((Array.all_eq_true_iff_forall_mem.mp hF) _ (Array.getElem_mem ha)) i (List.mem_range.mpr hi)
    simpa [Array.getElem?_eq_getElem hi] using q
  obtain ⟨i0, e0⟩ := is_v g1
  obtain rfl : w0 = (.int i0) := Option.some.inj e0
  obtain ⟨i1, e1⟩ := is_v g2
  obtain rfl : w1 = (.int i1) := Option.some.inj e1
  obtain ⟨i2, e2⟩ := is_v g3
  obtain rfl : w2 = (.int i2) := Option.some.inj e2
  obtain ⟨i3, e3⟩ := is_v g4
  obtain rfl : w3 = (.int i3) := Option.some.inj e3
  obtain ⟨i4, e4⟩ := is_v g5
  obtain rfl : w4 = (.int i4) := Option.some.inj e4
  obtain ⟨i5, e5⟩ := is_v r5
  obtain rfl : w5 = (.int i5) := Option.some.inj e5
  obtain ⟨n, o, q1, q2, q3, v, L, rfl, ⟨N, ds', M', -, rfl⟩, hq⟩ := law_met s _ hw s.heap i0 i1 i2 i3 i4 i5  l tables_1 s.heap (Mo.start s _ s.heap) p e ha hc hk s m _ below hf ((Spec.applies_iff_loose hf).mp happ).1 ⟨rfl, State.Warmed39.refl s, rfl⟩ trivial
  refine ⟨n, _, q1, q2, q3, hpost _ _ _ _ _ _ ⟨Cond.after_iff.mpr rfl, Cond.after_iff.mpr (eq_i res_at (Term.int_eval (1)) rfl), trivial⟩ ⟨hq.1, hq.2.1, (hq.2.2.sift fun y hy => Or.inr (N y hy)).mono (by decide) (by decide)⟩⟩
theorem main_1_1 : Claimed_1_1 := comes_1 fun _ _ _ _ _ _ h hF => ⟨h.1, hF⟩
theorem main_1_2 : Claimed_1_2 := comes_1 fun _ _ _ _ _ _ h hF => ⟨h.2.1, hF⟩

end Jvm.Pilot.@@N@@
namespace Jvm.Pilot.@@N@@
open Jvm Jvm.ClassFile Sem Op Lib Jvm.Free Jvm.Stand Jvm.Pilot.@@N@@.Jvm.D
/-! MADE BY PROGRAM (witnessworld.py) out of the Statement's table words and the real class files: 20 classes; the members and pool entries that the words name. The judged class is class 1, her method 1. -/
namespace start1
open Jvm.ClassFile
def u (s : String) : CpInfo := .utf8 (stringToUtf16 s)
/-- a pool by its gaps: so many unusable entries, then the entry; so many at the end -/
def gap : Nat → List CpInfo → List CpInfo
  | 0, r => r
  | n + 1, r => .unusable :: gap n r
def poolList (es : List (Nat × CpInfo)) (last : Nat) : List CpInfo := es.foldr (fun e r => gap e.1 (e.2 :: r)) (gap last [])
def pool (es : List (Nat × CpInfo)) (last : Nat) : Array CpInfo := ⟨poolList es last⟩
def fileOf (pool : Array CpInfo) (this : Nat) (attrs : Array Attribute := #[]) (ms : Array MethodInfo := #[]) (fl : Nat := 33) (sup : Nat := 0) (ifs : Array Nat := #[]) (fds : Array FieldInfo := #[]) : ClassFile where
  minorVersion := 0
  majorVersion := 65
  constantPool := pool
  accessFlags := fl
  thisClass := this
  superClass := sup
  interfaces := ifs
  fields := fds
  methods := ms
  attributes := attrs
def plain (name : String) (sup : Option ClassId) : Class where
  name := name
  kind := .ordinary
  loader := none
  accessFlags := 33
  super := sup
  interfaces := #[]
  cf := none
  fields := #[]
  methods := #[]
  instanceTypes := #[]
  staticTypes := #[]
  resolved := #[]
  callSites := []
  init := .initialized
  statics := none
  mirror := none

def pool0 : Array CpInfo := pool [(5, u "<init>"), (0, u "()V"), (1, .class_ 10), (1, u "java/lang/Object")] 113

def k0c0 : Code := { maxStack := 0, maxLocals := 1, code := object_method_1_code, exceptionTable := #[], attributes := #[] }
def k0m0 : Method := { name := "<init>", desc := "()V", sig := { parameters := [], returnType := none }, accessFlags := 1, code := some k0c0 }
/-- java/lang/Object -/
def k0 : Class := { plain "java/lang/Object" none with
  accessFlags := 33
  interfaces := #[]
  cf := some (fileOf pool0 8 #[] #[{ accessFlags := 1, nameIndex := 5, descriptorIndex := 6, attributes := #[] }] 33 0 #[] #[])
  fields := #[]
  methods := #[k0m0]
  instanceTypes := #[]
  staticTypes := #[]
  resolved := Array.replicate 124 none
  statics := none }

def pool1 : Array CpInfo := pool [(2, .class_ 4), (1, u "java/lang/Object"), (0, u "<init>"), (0, u "()V"), (0, .integer 2147483647), (0, .methodref 9 10), (0, .class_ 11), (0, .nameAndType 12 13), (0, u "java/lang/Math"), (0, u "min"), (0, u "(II)I"), (0, .methodref 9 15), (0, .nameAndType 16 13), (0, u "max"), (0, .class_ 18), (0, u "com/example/clauseline/clauseline/service/TakenPieces"), (0, .methodref 17 20), (0, .nameAndType 5 21), (0, u "(I)V"), (0, .methodref 17 23), (0, .nameAndType 24 25), (0, u "take"), (0, u "(II)V"), (0, .methodref 17 27), (0, .nameAndType 28 13), (0, u "firstFree"), (0, .methodref 30 31), (0, .class_ 32), (0, .nameAndType 33 34), (0, u "com/example/clauseline/clauseline/service/TakenPiecesTakePinLaw"), (0, u "expected"), (0, u "(IIIII)I"), (2, u "law"), (0, u "(IIIIII)Z")] 3

def k1m0 : Method := { name := "<init>", desc := "()V", sig := { parameters := [], returnType := none }, accessFlags := 1, code := none }
def k1c1 : Code := { maxStack := 6, maxLocals := 17, code := code, exceptionTable := #[], attributes := #[] }
def k1m1 : Method := { name := "law", desc := "(IIIIII)Z", sig := { parameters := [.int, .int, .int, .int, .int, .int], returnType := some .boolean }, accessFlags := 9, code := some k1c1 }
def k1c2 : Code := { maxStack := 3, maxLocals := 6, code := method_3_code, exceptionTable := #[], attributes := #[] }
def k1m2 : Method := { name := "expected", desc := "(IIIII)I", sig := { parameters := [.int, .int, .int, .int, .int], returnType := some .int }, accessFlags := 10, code := some k1c2 }
/-- com/example/clauseline/clauseline/service/TakenPiecesTakePinLaw -/
def k1 : Class := { plain "com/example/clauseline/clauseline/service/TakenPiecesTakePinLaw" (some 0) with
  accessFlags := 49
  interfaces := #[]
  cf := some (fileOf pool1 30 #[] #[{ accessFlags := 1, nameIndex := 5, descriptorIndex := 6, attributes := #[] }, { accessFlags := 9, nameIndex := 37, descriptorIndex := 38, attributes := #[] }, { accessFlags := 10, nameIndex := 33, descriptorIndex := 34, attributes := #[] }] 49 2 #[] #[])
  fields := #[]
  methods := #[k1m0, k1m1, k1m2]
  instanceTypes := #[]
  staticTypes := #[]
  resolved := Array.replicate 42 none
  statics := none }

def pool2 : Array CpInfo := pool [(1, .class_ 2), (0, u "java/lang/Math"), (1, .class_ 6), (1, u "java/lang/Object"), (0, u "<init>"), (0, u "()V"), (89, .class_ 100), (1, u "java/lang/Math$RandomNumberGeneratorHolder"), (71, u "negativeZeroFloatBits"), (0, u "J"), (2, u "negativeZeroDoubleBits"), (21, u "max"), (2, u "min"), (43, u "$assertionsDisabled"), (0, u "Z"), (88, u "(II)I"), (2, u "twoToTheDoubleScaleDown"), (0, u "D"), (4, u "twoToTheDoubleScaleUp"), (9, u "E"), (3, u "PI"), (2, u "TAU"), (2, u "DEGREES_TO_RADIANS"), (0, u "RADIANS_TO_DEGREES")] 94

def k2m0 : Method := { name := "<init>", desc := "()V", sig := { parameters := [], returnType := none }, accessFlags := 2, code := none }
def k2c1 : Code := { maxStack := 2, maxLocals := 2, code := jdk_29_method_65_code, exceptionTable := #[], attributes := #[] }
def k2m1 : Method := { name := "max", desc := "(II)I", sig := { parameters := [.int, .int], returnType := some .int }, accessFlags := 9, code := some k2c1 }
def k2c2 : Code := { maxStack := 2, maxLocals := 2, code := jdk_29_method_69_code, exceptionTable := #[], attributes := #[] }
def k2m2 : Method := { name := "min", desc := "(II)I", sig := { parameters := [.int, .int], returnType := some .int }, accessFlags := 9, code := some k2c2 }
/-- java/lang/Math -/
def k2 : Class := { plain "java/lang/Math" (some 0) with
  accessFlags := 49
  interfaces := #[]
  cf := some (fileOf pool2 1 #[.nestMembers #[98]] #[{ accessFlags := 2, nameIndex := 7, descriptorIndex := 8, attributes := #[] }, { accessFlags := 9, nameIndex := 198, descriptorIndex := 335, attributes := #[] }, { accessFlags := 9, nameIndex := 201, descriptorIndex := 335, attributes := #[] }] 49 4 #[] #[{ accessFlags := 25, nameIndex := 354, descriptorIndex := 339, attributes := #[] }, { accessFlags := 25, nameIndex := 358, descriptorIndex := 339, attributes := #[] }, { accessFlags := 25, nameIndex := 361, descriptorIndex := 339, attributes := #[] }, { accessFlags := 26, nameIndex := 364, descriptorIndex := 339, attributes := #[] }, { accessFlags := 26, nameIndex := 365, descriptorIndex := 339, attributes := #[] }, { accessFlags := 26, nameIndex := 172, descriptorIndex := 173, attributes := #[] }, { accessFlags := 26, nameIndex := 176, descriptorIndex := 173, attributes := #[] }, { accessFlags := 8, nameIndex := 344, descriptorIndex := 339, attributes := #[] }, { accessFlags := 8, nameIndex := 338, descriptorIndex := 339, attributes := #[] }, { accessFlags := 4120, nameIndex := 245, descriptorIndex := 246, attributes := #[] }])
  fields := #[{ name := "E", type := .double, accessFlags := 25, slot := 0, constantValue := 0 }, { name := "PI", type := .double, accessFlags := 25, slot := 1, constantValue := 0 }, { name := "TAU", type := .double, accessFlags := 25, slot := 2, constantValue := 0 }, { name := "DEGREES_TO_RADIANS", type := .double, accessFlags := 26, slot := 3, constantValue := 0 }, { name := "RADIANS_TO_DEGREES", type := .double, accessFlags := 26, slot := 4, constantValue := 0 }, { name := "negativeZeroFloatBits", type := .long, accessFlags := 26, slot := 5, constantValue := 0 }, { name := "negativeZeroDoubleBits", type := .long, accessFlags := 26, slot := 6, constantValue := 0 }, { name := "twoToTheDoubleScaleUp", type := .double, accessFlags := 8, slot := 7, constantValue := 0 }, { name := "twoToTheDoubleScaleDown", type := .double, accessFlags := 8, slot := 8, constantValue := 0 }, { name := "$assertionsDisabled", type := .boolean, accessFlags := 4120, slot := 9, constantValue := 0 }]
  methods := #[k2m0, k2m1, k2m2]
  instanceTypes := #[]
  staticTypes := #[.double, .double, .double, .double, .double, .long, .long, .double, .double, .boolean]
  resolved := Array.replicate 460 none
  statics := none }

def pool3 : Array CpInfo := pool [(1, .methodref 2 3), (0, .class_ 4), (0, .nameAndType 5 6), (0, u "java/lang/Object"), (0, u "<init>"), (0, u "()V"), (0, .class_ 8), (0, u "com/example/clauseline/clauseline/service/TakenPieces"), (0, .methodref 10 11), (0, .class_ 12), (0, .nameAndType 13 14), (0, u "java/lang/Math"), (0, u "max"), (0, u "(II)I"), (0, .methodref 16 17), (0, .class_ 18), (0, .nameAndType 19 20), (0, u "java/lang/Integer"), (0, u "highestOneBit"), (0, u "(I)I"), (0, .fieldref 7 22), (0, .nameAndType 23 24), (0, u "words"), (0, u "I"), (0, .fieldref 7 26), (0, .nameAndType 27 28), (0, u "taken"), (0, u "[J"), (0, .fieldref 7 30), (0, .nameAndType 31 28), (0, u "splits"), (0, .fieldref 7 33), (0, .nameAndType 34 35), (0, u "prefix"), (0, u "[I"), (0, .fieldref 7 37), (0, .nameAndType 38 35), (0, u "suffix"), (0, .fieldref 7 40), (0, .nameAndType 41 35), (0, u "longest"), (0, .fieldref 7 43), (0, .nameAndType 44 45), (0, u "stale"), (0, u "[Z"), (0, .long 18446744073709551615), (1, .methodref 7 49), (0, .nameAndType 50 51), (0, u "summarize"), (0, u "(I)V"), (0, .methodref 7 53), (0, .nameAndType 54 51), (0, u "merge"), (0, .methodref 7 56), (0, .nameAndType 57 51), (0, u "changed"), (0, .methodref 7 59), (0, .nameAndType 60 61), (0, u "scan"), (0, u "(III)I"), (0, .methodref 7 63), (0, .nameAndType 64 51), (0, u "update"), (0, .methodref 10 66), (0, .nameAndType 67 14), (0, u "min"), (0, .methodref 7 69), (0, .nameAndType 70 20), (0, u "next"), (0, .methodref 7 72), (0, .nameAndType 73 20), (0, u "levelsBelow"), (0, .methodref 7 75), (0, .nameAndType 76 77), (0, u "nextFree"), (0, u "(JI)I"), (0, .methodref 7 79), (0, .nameAndType 80 77), (0, u "runEnd"), (0, .methodref 16 82), (0, .nameAndType 83 20), (0, u "numberOfLeadingZeros"), (0, .methodref 85 86), (0, .class_ 87), (0, .nameAndType 88 89), (0, u "java/lang/Long"), (0, u "numberOfTrailingZeros"), (0, u "(J)I"), (0, u "WORD"), (5, u "take"), (0, u "(II)V"), (1, u "firstFree")] 3

def k3c0 : Code := { maxStack := 5, maxLocals := 5, code := prog_101_method_1_code, exceptionTable := #[], attributes := #[] }
def k3m0 : Method := { name := "<init>", desc := "(I)V", sig := { parameters := [.int], returnType := none }, accessFlags := 0, code := some k3c0 }
def k3c1 : Code := { maxStack := 8, maxLocals := 8, code := prog_101_method_2_code, exceptionTable := #[], attributes := #[] }
def k3m1 : Method := { name := "take", desc := "(II)V", sig := { parameters := [.int, .int], returnType := none }, accessFlags := 0, code := some k3c1 }
def k3c2 : Code := { maxStack := 4, maxLocals := 11, code := prog_101_method_4_code, exceptionTable := #[], attributes := #[] }
def k3m2 : Method := { name := "firstFree", desc := "(II)I", sig := { parameters := [.int, .int], returnType := some .int }, accessFlags := 0, code := some k3c2 }
def k3c3 : Code := { maxStack := 3, maxLocals := 3, code := prog_101_method_5_code, exceptionTable := #[], attributes := #[] }
def k3m3 : Method := { name := "changed", desc := "(I)V", sig := { parameters := [.int], returnType := none }, accessFlags := 2, code := some k3c3 }
def k3c4 : Code := { maxStack := 3, maxLocals := 2, code := prog_101_method_6_code, exceptionTable := #[], attributes := #[] }
def k3m4 : Method := { name := "update", desc := "(I)V", sig := { parameters := [.int], returnType := none }, accessFlags := 2, code := some k3c4 }
def k3c5 : Code := { maxStack := 4, maxLocals := 11, code := prog_101_method_7_code, exceptionTable := #[], attributes := #[] }
def k3m5 : Method := { name := "scan", desc := "(III)I", sig := { parameters := [.int, .int, .int], returnType := some .int }, accessFlags := 2, code := some k3c5 }
def k3c6 : Code := { maxStack := 4, maxLocals := 11, code := prog_101_method_8_code, exceptionTable := #[], attributes := #[] }
def k3m6 : Method := { name := "summarize", desc := "(I)V", sig := { parameters := [.int], returnType := none }, accessFlags := 2, code := some k3c6 }
def k3c7 : Code := { maxStack := 5, maxLocals := 8, code := prog_101_method_9_code, exceptionTable := #[], attributes := #[] }
def k3m7 : Method := { name := "merge", desc := "(I)V", sig := { parameters := [.int], returnType := none }, accessFlags := 2, code := some k3c7 }
def k3c8 : Code := { maxStack := 2, maxLocals := 2, code := prog_101_method_10_code, exceptionTable := #[], attributes := #[] }
def k3m8 : Method := { name := "levelsBelow", desc := "(I)I", sig := { parameters := [.int], returnType := some .int }, accessFlags := 2, code := some k3c8 }
def k3c9 : Code := { maxStack := 2, maxLocals := 2, code := prog_101_method_11_code, exceptionTable := #[], attributes := #[] }
def k3m9 : Method := { name := "next", desc := "(I)I", sig := { parameters := [.int], returnType := some .int }, accessFlags := 10, code := some k3c9 }
def k3c10 : Code := { maxStack := 4, maxLocals := 5, code := prog_101_method_12_code, exceptionTable := #[], attributes := #[] }
def k3m10 : Method := { name := "nextFree", desc := "(JI)I", sig := { parameters := [.long, .int], returnType := some .int }, accessFlags := 10, code := some k3c10 }
def k3c11 : Code := { maxStack := 4, maxLocals := 5, code := prog_101_method_13_code, exceptionTable := #[], attributes := #[] }
def k3m11 : Method := { name := "runEnd", desc := "(JI)I", sig := { parameters := [.long, .int], returnType := some .int }, accessFlags := 10, code := some k3c11 }
/-- com/example/clauseline/clauseline/service/TakenPieces -/
def k3 : Class := { plain "com/example/clauseline/clauseline/service/TakenPieces" (some 0) with
  accessFlags := 48
  interfaces := #[]
  cf := some (fileOf pool3 7 #[] #[{ accessFlags := 0, nameIndex := 5, descriptorIndex := 51, attributes := #[] }, { accessFlags := 0, nameIndex := 96, descriptorIndex := 97, attributes := #[] }, { accessFlags := 0, nameIndex := 99, descriptorIndex := 14, attributes := #[] }, { accessFlags := 2, nameIndex := 57, descriptorIndex := 51, attributes := #[] }, { accessFlags := 2, nameIndex := 64, descriptorIndex := 51, attributes := #[] }, { accessFlags := 2, nameIndex := 60, descriptorIndex := 61, attributes := #[] }, { accessFlags := 2, nameIndex := 50, descriptorIndex := 51, attributes := #[] }, { accessFlags := 2, nameIndex := 54, descriptorIndex := 51, attributes := #[] }, { accessFlags := 2, nameIndex := 73, descriptorIndex := 20, attributes := #[] }, { accessFlags := 10, nameIndex := 70, descriptorIndex := 20, attributes := #[] }, { accessFlags := 10, nameIndex := 76, descriptorIndex := 77, attributes := #[] }, { accessFlags := 10, nameIndex := 80, descriptorIndex := 77, attributes := #[] }] 48 2 #[] #[{ accessFlags := 26, nameIndex := 90, descriptorIndex := 24, attributes := #[] }, { accessFlags := 18, nameIndex := 23, descriptorIndex := 24, attributes := #[] }, { accessFlags := 18, nameIndex := 27, descriptorIndex := 28, attributes := #[] }, { accessFlags := 18, nameIndex := 31, descriptorIndex := 28, attributes := #[] }, { accessFlags := 18, nameIndex := 34, descriptorIndex := 35, attributes := #[] }, { accessFlags := 18, nameIndex := 38, descriptorIndex := 35, attributes := #[] }, { accessFlags := 18, nameIndex := 41, descriptorIndex := 35, attributes := #[] }, { accessFlags := 18, nameIndex := 44, descriptorIndex := 45, attributes := #[] }])
  fields := #[{ name := "WORD", type := .int, accessFlags := 26, slot := 0, constantValue := 0 }, { name := "words", type := .int, accessFlags := 18, slot := 0, constantValue := 0 }, { name := "taken", type := (.array .long), accessFlags := 18, slot := 1, constantValue := 0 }, { name := "splits", type := (.array .long), accessFlags := 18, slot := 2, constantValue := 0 }, { name := "prefix", type := (.array .int), accessFlags := 18, slot := 3, constantValue := 0 }, { name := "suffix", type := (.array .int), accessFlags := 18, slot := 4, constantValue := 0 }, { name := "longest", type := (.array .int), accessFlags := 18, slot := 5, constantValue := 0 }, { name := "stale", type := (.array .boolean), accessFlags := 18, slot := 6, constantValue := 0 }]
  methods := #[k3m0, k3m1, k3m2, k3m3, k3m4, k3m5, k3m6, k3m7, k3m8, k3m9, k3m10, k3m11]
  instanceTypes := #[.int, (.array .long), (.array .long), (.array .int), (.array .int), (.array .int), (.array .boolean)]
  staticTypes := #[.int]
  resolved := Array.replicate 103 none
  statics := none }

def pool4 : Array CpInfo := pool [(1, .class_ 2), (0, u "java/io/Serializable"), (0, .class_ 4), (0, u "java/lang/Object")] 2

/-- java/io/Serializable -/
def k4 : Class := { plain "java/io/Serializable" (some 0) with
  accessFlags := 1537
  interfaces := #[]
  cf := some (fileOf pool4 1 #[] #[] 1537 3 #[] #[])
  fields := #[]
  methods := #[]
  instanceTypes := #[]
  staticTypes := #[]
  resolved := Array.replicate 7 none
  statics := none }

def pool5 : Array CpInfo := pool [(2, .class_ 4), (1, u "java/lang/Object"), (0, u "<init>"), (0, u "()V"), (1, .class_ 10), (1, u "java/lang/Number"), (2, .class_ 14), (0, u "java/io/Serializable"), (0, u "serialVersionUID"), (0, u "J")] 20

def k5m0 : Method := { name := "<init>", desc := "()V", sig := { parameters := [], returnType := none }, accessFlags := 1, code := none }
/-- java/lang/Number -/
def k5 : Class := { plain "java/lang/Number" (some 0) with
  accessFlags := 1057
  interfaces := #[4]
  cf := some (fileOf pool5 8 #[] #[{ accessFlags := 1, nameIndex := 5, descriptorIndex := 6, attributes := #[] }] 1057 2 #[13] #[{ accessFlags := 26, nameIndex := 15, descriptorIndex := 16, attributes := #[] }])
  fields := #[{ name := "serialVersionUID", type := .long, accessFlags := 26, slot := 0, constantValue := 0 }]
  methods := #[k5m0]
  instanceTypes := #[]
  staticTypes := #[.long]
  resolved := Array.replicate 37 none
  statics := none }

def pool6 : Array CpInfo := pool [(1, .class_ 2), (0, u "java/lang/Comparable"), (0, .class_ 4), (0, u "java/lang/Object")] 7

/-- java/lang/Comparable -/
def k6 : Class := { plain "java/lang/Comparable" (some 0) with
  accessFlags := 1537
  interfaces := #[]
  cf := some (fileOf pool6 1 #[] #[] 1537 3 #[] #[])
  fields := #[]
  methods := #[]
  instanceTypes := #[]
  staticTypes := #[]
  resolved := Array.replicate 12 none
  statics := none }

def pool7 : Array CpInfo := pool [(1, .class_ 2), (0, u "java/lang/constant/Constable"), (0, .class_ 4), (0, u "java/lang/Object")] 6

/-- java/lang/constant/Constable -/
def k7 : Class := { plain "java/lang/constant/Constable" (some 0) with
  accessFlags := 1537
  interfaces := #[]
  cf := some (fileOf pool7 1 #[] #[] 1537 3 #[] #[])
  fields := #[]
  methods := #[]
  instanceTypes := #[]
  staticTypes := #[]
  resolved := Array.replicate 11 none
  statics := none }

def pool8 : Array CpInfo := pool [(1, .class_ 2), (0, u "java/lang/constant/ConstantDesc"), (0, .class_ 4), (0, u "java/lang/Object")] 32

/-- java/lang/constant/ConstantDesc -/
def k8 : Class := { plain "java/lang/constant/ConstantDesc" (some 0) with
  accessFlags := 1537
  interfaces := #[]
  cf := some (fileOf pool8 1 #[] #[] 1537 3 #[] #[])
  fields := #[]
  methods := #[]
  instanceTypes := #[]
  staticTypes := #[]
  resolved := Array.replicate 37 none
  statics := none }

def pool9 : Array CpInfo := pool [(1, .class_ 2), (0, u "java/lang/Integer"), (16, u "digits"), (0, u "[C"), (30, .methodref 1 52), (0, .nameAndType 53 54), (0, u "numberOfLeadingZeros"), (0, u "(I)I"), (30, u "DigitOnes"), (0, u "[B"), (2, u "DigitTens"), (37, .integer 2147483648), (61, .class_ 190), (0, u "java/lang/Integer$IntegerCache"), (3, u "I"), (8, .class_ 204), (0, u "java/lang/Number"), (2, u "value"), (56, .integer 65536), (37, u "TYPE"), (0, u "Ljava/lang/Class;"), (0, .class_ 305), (0, u "java/lang/Comparable"), (0, .class_ 307), (0, u "java/lang/constant/Constable"), (0, .class_ 309), (0, u "java/lang/constant/ConstantDesc"), (0, u "MIN_VALUE"), (1, u "MAX_VALUE"), (3, u "SIZE"), (1, u "BYTES"), (1, u "serialVersionUID"), (0, u "J"), (81, u "highestOneBit"), (2, u "numberOfTrailingZeros")] 46

def k9c0 : Code := { maxStack := 3, maxLocals := 1, code := jdk_33_method_45_code, exceptionTable := #[], attributes := #[] }
def k9m0 : Method := { name := "highestOneBit", desc := "(I)I", sig := { parameters := [.int], returnType := some .int }, accessFlags := 9, code := some k9c0 }
def k9c1 : Code := { maxStack := 3, maxLocals := 2, code := jdk_33_method_47_code, exceptionTable := #[], attributes := #[] }
def k9m1 : Method := { name := "numberOfLeadingZeros", desc := "(I)I", sig := { parameters := [.int], returnType := some .int }, accessFlags := 9, code := some k9c1 }
def k9c2 : Code := { maxStack := 3, maxLocals := 2, code := jdk_33_method_48_code, exceptionTable := #[], attributes := #[] }
def k9m2 : Method := { name := "numberOfTrailingZeros", desc := "(I)I", sig := { parameters := [.int], returnType := some .int }, accessFlags := 9, code := some k9c2 }
/-- java/lang/Integer -/
def k9 : Class := { plain "java/lang/Integer" (some 5) with
  accessFlags := 49
  interfaces := #[6, 7, 8]
  cf := some (fileOf pool9 1 #[.nestMembers #[189]] #[{ accessFlags := 9, nameIndex := 403, descriptorIndex := 54, attributes := #[] }, { accessFlags := 9, nameIndex := 53, descriptorIndex := 54, attributes := #[] }, { accessFlags := 9, nameIndex := 406, descriptorIndex := 54, attributes := #[] }] 49 203 #[304, 306, 308] #[{ accessFlags := 25, nameIndex := 310, descriptorIndex := 194, attributes := #[] }, { accessFlags := 25, nameIndex := 312, descriptorIndex := 194, attributes := #[] }, { accessFlags := 25, nameIndex := 302, descriptorIndex := 303, attributes := #[] }, { accessFlags := 24, nameIndex := 19, descriptorIndex := 20, attributes := #[] }, { accessFlags := 24, nameIndex := 89, descriptorIndex := 86, attributes := #[] }, { accessFlags := 24, nameIndex := 85, descriptorIndex := 86, attributes := #[] }, { accessFlags := 18, nameIndex := 207, descriptorIndex := 194, attributes := #[] }, { accessFlags := 25, nameIndex := 316, descriptorIndex := 194, attributes := #[] }, { accessFlags := 25, nameIndex := 318, descriptorIndex := 194, attributes := #[] }, { accessFlags := 26, nameIndex := 320, descriptorIndex := 321, attributes := #[] }])
  fields := #[{ name := "MIN_VALUE", type := .int, accessFlags := 25, slot := 0, constantValue := 0 }, { name := "MAX_VALUE", type := .int, accessFlags := 25, slot := 1, constantValue := 0 }, { name := "TYPE", type := (.object "java/lang/Class"), accessFlags := 25, slot := 2, constantValue := 0 }, { name := "digits", type := (.array .char), accessFlags := 24, slot := 3, constantValue := 0 }, { name := "DigitTens", type := (.array .byte), accessFlags := 24, slot := 4, constantValue := 0 }, { name := "DigitOnes", type := (.array .byte), accessFlags := 24, slot := 5, constantValue := 0 }, { name := "value", type := .int, accessFlags := 18, slot := 0, constantValue := 0 }, { name := "SIZE", type := .int, accessFlags := 25, slot := 6, constantValue := 0 }, { name := "BYTES", type := .int, accessFlags := 25, slot := 7, constantValue := 0 }, { name := "serialVersionUID", type := .long, accessFlags := 26, slot := 8, constantValue := 0 }]
  methods := #[k9m0, k9m1, k9m2]
  instanceTypes := #[.int]
  staticTypes := #[.int, .int, (.object "java/lang/Class"), (.array .char), (.array .byte), (.array .byte), .int, .int, .long]
  resolved := Array.replicate 453 none
  statics := none }

def pool10 : Array CpInfo := pool [(1, .class_ 2), (0, u "java/lang/Long"), (15, .class_ 20), (1, u "java/lang/Integer"), (80, u "(J)I"), (133, .class_ 237), (1, u "java/lang/Long$LongCache"), (33, .class_ 272), (0, u "java/lang/Number"), (2, u "value"), (0, u "J"), (33, u "(I)I"), (0, .methodref 18 312), (0, .nameAndType 313 310), (0, u "numberOfTrailingZeros"), (47, u "TYPE"), (0, u "Ljava/lang/Class;"), (0, .class_ 364), (0, u "java/lang/Comparable"), (0, .class_ 366), (0, u "java/lang/constant/Constable"), (0, .class_ 368), (0, u "java/lang/constant/ConstantDesc"), (0, u "MIN_VALUE"), (1, u "MAX_VALUE"), (4, u "SIZE"), (0, u "I"), (1, u "BYTES"), (1, u "serialVersionUID")] 142

def k10c0 : Code := { maxStack := 4, maxLocals := 3, code := jdk_35_method_49_code, exceptionTable := #[], attributes := #[] }
def k10m0 : Method := { name := "numberOfTrailingZeros", desc := "(J)I", sig := { parameters := [.long], returnType := some .int }, accessFlags := 9, code := some k10c0 }
/-- java/lang/Long -/
def k10 : Class := { plain "java/lang/Long" (some 5) with
  accessFlags := 49
  interfaces := #[6, 7, 8]
  cf := some (fileOf pool10 1 #[.nestMembers #[235]] #[{ accessFlags := 9, nameIndex := 313, descriptorIndex := 101, attributes := #[] }] 49 271 #[363, 365, 367] #[{ accessFlags := 25, nameIndex := 369, descriptorIndex := 276, attributes := #[] }, { accessFlags := 25, nameIndex := 371, descriptorIndex := 276, attributes := #[] }, { accessFlags := 25, nameIndex := 361, descriptorIndex := 362, attributes := #[] }, { accessFlags := 18, nameIndex := 275, descriptorIndex := 276, attributes := #[] }, { accessFlags := 25, nameIndex := 376, descriptorIndex := 377, attributes := #[] }, { accessFlags := 25, nameIndex := 379, descriptorIndex := 377, attributes := #[] }, { accessFlags := 26, nameIndex := 381, descriptorIndex := 276, attributes := #[] }])
  fields := #[{ name := "MIN_VALUE", type := .long, accessFlags := 25, slot := 0, constantValue := 0 }, { name := "MAX_VALUE", type := .long, accessFlags := 25, slot := 1, constantValue := 0 }, { name := "TYPE", type := (.object "java/lang/Class"), accessFlags := 25, slot := 2, constantValue := 0 }, { name := "value", type := .long, accessFlags := 18, slot := 0, constantValue := 0 }, { name := "SIZE", type := .int, accessFlags := 25, slot := 3, constantValue := 0 }, { name := "BYTES", type := .int, accessFlags := 25, slot := 4, constantValue := 0 }, { name := "serialVersionUID", type := .long, accessFlags := 26, slot := 5, constantValue := 0 }]
  methods := #[k10m0]
  instanceTypes := #[.long]
  staticTypes := #[.long, .long, (.object "java/lang/Class"), .int, .int, .long]
  resolved := Array.replicate 524 none
  statics := none }

def pool11 : Array CpInfo := pool [(1, u "java/lang/Cloneable"), (0, .class_ 1), (0, u "java/lang/Object"), (0, .class_ 3)] 3

/-- java/lang/Cloneable -/
def k11 : Class := { plain "java/lang/Cloneable" (some 0) with
  accessFlags := 1537
  interfaces := #[]
  cf := some (fileOf pool11 2 #[] #[] 1537 4 #[] #[])
  fields := #[]
  methods := #[]
  instanceTypes := #[]
  staticTypes := #[]
  resolved := Array.replicate 8 none
  statics := none }

/-- the primitive boolean -/
def k12 : Class := { plain "boolean" none with kind := .primitive 'Z', accessFlags := 0x411 }
/-- [Z -/
def k13 : Class := { plain "[Z" (some 0) with kind := .array 12 .boolean, interfaces := #[11, 4], accessFlags := 1041 }

/-- the primitive byte -/
def k14 : Class := { plain "byte" none with kind := .primitive 'B', accessFlags := 0x411 }
/-- [B -/
def k15 : Class := { plain "[B" (some 0) with kind := .array 14 .byte, interfaces := #[11, 4], accessFlags := 1041 }

/-- the primitive int -/
def k16 : Class := { plain "int" none with kind := .primitive 'I', accessFlags := 0x411 }
/-- [I -/
def k17 : Class := { plain "[I" (some 0) with kind := .array 16 .int, interfaces := #[11, 4], accessFlags := 1041 }

/-- the primitive long -/
def k18 : Class := { plain "long" none with kind := .primitive 'J', accessFlags := 0x411 }
/-- [J -/
def k19 : Class := { plain "[J" (some 0) with kind := .array 18 .long, interfaces := #[11, 4], accessFlags := 1041 }

def heap : Heap := #[]
def classes : Array Class := #[k0, k1, k2, k3, k4, k5, k6, k7, k8, k9, k10, k11, k12, k13, k14, k15, k16, k17, k18, k19]
def interned : List (Array UInt16 × Addr) := []
def slotsUsed : Nat := 0
def theMethod : MethodId := ⟨1, 1⟩
def args0 : Array Value := #[.int 5, .int 1, .int 2, .int 3, .int 4, .int 7]
def aboutOver (below : List Frame) : State where
  vm := { classes := classes, interned := interned.toArray }
  heap := heap
  slotsUsed := slotsUsed
  threads := #[{ frames := .invoking theMethod args0 :: below }]
def below0 : List Frame := [.native { method := ⟨0, 0⟩, args := #[] }]
def about1 : State := aboutOver below0
def p0 : Program := .bare "" "" ""
def e0 : Env := launch0.env 0 0 0
theorem w_frames : about1.frames = Frame.invoking theMethod args0 :: below0 := rfl
set_option maxRecDepth 65536 in
theorem w_args : argsFit about1.vm theMethod args0 = true := by decide +kernel
set_option maxRecDepth 65536 in
theorem w_heap : heapFits about1 = true := by decide +kernel
set_option maxRecDepth 65536 in
theorem w_runnable : about1.curStatus? = some .runnable := by decide +kernel
set_option maxRecDepth 65536 in
theorem w_alone : about1.alone = true := by decide +kernel
set_option maxRecDepth 65536 in
theorem w_named : about1.methodNamed? x = some theMethod := by decide +kernel
set_option maxRecDepth 65536 in
theorem w_hears : about1.hears theMethod below0 = true := by decide +kernel
set_option maxRecDepth 65536 in
theorem w_ripe : about1.ripe theMethod args0 below0 = true := by decide +kernel
theorem w_running : about1.status = .running := rfl
set_option maxRecDepth 65536 in
theorem w_room : about1.hasRoom e0.platform room_1 = true :=
  launch0.hasRoom_least _ room_1 (by decide +kernel) (by decide +kernel) (by decide +kernel) (by decide +kernel) (by decide +kernel) (by decide +kernel)
theorem allAtoms_all (ts : List Jvm.Cond) (a : Array Jvm.Value) (st : Jvm.State) : (allAtoms ts).before a st = ts.all (fun c => c.before a st) := by
  induction ts with
  | nil => rfl
  | cons c t ih =>
    show (Jvm.Cond.and c (allAtoms t)).before a st = _
    rw [Jvm.Cond.before_and, ih, List.all_cons]
def words1 : List Jvm.Cond := Jvm.Cond.code x code maxLocals ret :: tables_1
/-- a 'code' word, met by the world's own term for the bytes: nothing is compared byte by byte -/
theorem code_word {y : MethodName} {bytes : ByteArray} {mx : Nat} {rt : Option FieldType} {a : Array Value} {s : State} {m : MethodId} {meth : Method} {c : Code} (h1 : s.methodNamed? y = some m) (h2 : s.vm.method? m = some meth) (h3 : meth.code = some c) (h4 : c.code = bytes)
    (h5 : (c.maxLocals == mx && c.exceptionTable.isEmpty && decide (c.maxStack ≤ mostOperands) && decide (meth.sig.returnType = rt) && !meth.locks && decide (parseMethodDescriptor y.desc = some meth.sig)) = true) : (Jvm.Cond.code y bytes mx rt).before a s = true := by
  simp only [Bool.and_eq_true, beq_iff_eq, Bool.not_eq_true', decide_eq_true_eq] at h5
  obtain ⟨⟨⟨⟨⟨g1, g2⟩, g3⟩, g4⟩, g5⟩, g6⟩ := h5
  simp [Cond.before, Cond.holds, Cond.value, h1, h2, h3, h4, g1, g2, g3, g4, g5, g6]
def isCode : Jvm.Cond → Bool
  | .code _ _ _ _ => true
  | _ => false
theorem all_split {L : List Jvm.Cond} {P : Jvm.Cond → Bool} (h1 : L.all (fun c => isCode c || P c) = true) (h2 : ∀ c ∈ L.filter isCode, P c = true) : L.all P = true := by
  refine List.all_eq_true.mpr fun c hc => ?_
  have h := List.all_eq_true.mp h1 c hc
  rcases Bool.eq_false_or_eq_true (isCode c) with hi | hi
  · exact h2 c (List.mem_filter.mpr ⟨hc, hi⟩)
  · simpa [hi] using h
set_option maxRecDepth 65536 in
theorem w_c0 : (Jvm.Cond.code x code maxLocals ret).before args0 about1 = true := code_word (m := ⟨1, 1⟩) (meth := k1m1) (c := k1c1) (by decide +kernel) rfl rfl rfl (by decide +kernel)
set_option maxRecDepth 65536 in
theorem w_c1 : (Jvm.Cond.code ({ cls := "java/lang/Math", name := "min", desc := "(II)I" } : Jvm.MethodName) jdk_29_method_69_code (2 : Nat) (Option.some Jvm.ClassFile.FieldType.int)).before args0 about1 = true := code_word (m := ⟨2, 2⟩) (meth := k2m2) (c := k2c2) (by decide +kernel) rfl rfl rfl (by decide +kernel)
set_option maxRecDepth 65536 in
theorem w_c2 : (Jvm.Cond.code ({ cls := "java/lang/Math", name := "max", desc := "(II)I" } : Jvm.MethodName) jdk_29_method_65_code (2 : Nat) (Option.some Jvm.ClassFile.FieldType.int)).before args0 about1 = true := code_word (m := ⟨2, 1⟩) (meth := k2m1) (c := k2c1) (by decide +kernel) rfl rfl rfl (by decide +kernel)
set_option maxRecDepth 65536 in
theorem w_c3 : (Jvm.Cond.code ({ cls := "com/example/clauseline/clauseline/service/TakenPieces", name := "<init>", desc := "(I)V" } : Jvm.MethodName) prog_101_method_1_code (5 : Nat) (Option.none : Option Jvm.ClassFile.FieldType)).before args0 about1 = true := code_word (m := ⟨3, 0⟩) (meth := k3m0) (c := k3c0) (by decide +kernel) rfl rfl rfl (by decide +kernel)
set_option maxRecDepth 65536 in
theorem w_c4 : (Jvm.Cond.code ({ cls := "java/lang/Object", name := "<init>", desc := "()V" } : Jvm.MethodName) object_method_1_code (1 : Nat) (Option.none : Option Jvm.ClassFile.FieldType)).before args0 about1 = true := code_word (m := ⟨0, 0⟩) (meth := k0m0) (c := k0c0) (by decide +kernel) rfl rfl rfl (by decide +kernel)
set_option maxRecDepth 65536 in
theorem w_c5 : (Jvm.Cond.code ({ cls := "java/lang/Integer", name := "highestOneBit", desc := "(I)I" } : Jvm.MethodName) jdk_33_method_45_code (1 : Nat) (Option.some Jvm.ClassFile.FieldType.int)).before args0 about1 = true := code_word (m := ⟨9, 0⟩) (meth := k9m0) (c := k9c0) (by decide +kernel) rfl rfl rfl (by decide +kernel)
set_option maxRecDepth 65536 in
theorem w_c6 : (Jvm.Cond.code ({ cls := "java/lang/Integer", name := "numberOfLeadingZeros", desc := "(I)I" } : Jvm.MethodName) jdk_33_method_47_code (2 : Nat) (Option.some Jvm.ClassFile.FieldType.int)).before args0 about1 = true := code_word (m := ⟨9, 1⟩) (meth := k9m1) (c := k9c1) (by decide +kernel) rfl rfl rfl (by decide +kernel)
set_option maxRecDepth 65536 in
theorem w_c7 : (Jvm.Cond.code ({ cls := "com/example/clauseline/clauseline/service/TakenPieces", name := "summarize", desc := "(I)V" } : Jvm.MethodName) prog_101_method_8_code (11 : Nat) (Option.none : Option Jvm.ClassFile.FieldType)).before args0 about1 = true := code_word (m := ⟨3, 6⟩) (meth := k3m6) (c := k3c6) (by decide +kernel) rfl rfl rfl (by decide +kernel)
set_option maxRecDepth 65536 in
theorem w_c8 : (Jvm.Cond.code ({ cls := "com/example/clauseline/clauseline/service/TakenPieces", name := "nextFree", desc := "(JI)I" } : Jvm.MethodName) prog_101_method_12_code (5 : Nat) (Option.some Jvm.ClassFile.FieldType.int)).before args0 about1 = true := code_word (m := ⟨3, 10⟩) (meth := k3m10) (c := k3c10) (by decide +kernel) rfl rfl rfl (by decide +kernel)
set_option maxRecDepth 65536 in
theorem w_c9 : (Jvm.Cond.code ({ cls := "java/lang/Long", name := "numberOfTrailingZeros", desc := "(J)I" } : Jvm.MethodName) jdk_35_method_49_code (3 : Nat) (Option.some Jvm.ClassFile.FieldType.int)).before args0 about1 = true := code_word (m := ⟨10, 0⟩) (meth := k10m0) (c := k10c0) (by decide +kernel) rfl rfl rfl (by decide +kernel)
set_option maxRecDepth 65536 in
theorem w_c10 : (Jvm.Cond.code ({ cls := "java/lang/Integer", name := "numberOfTrailingZeros", desc := "(I)I" } : Jvm.MethodName) jdk_33_method_48_code (2 : Nat) (Option.some Jvm.ClassFile.FieldType.int)).before args0 about1 = true := code_word (m := ⟨9, 2⟩) (meth := k9m2) (c := k9c2) (by decide +kernel) rfl rfl rfl (by decide +kernel)
set_option maxRecDepth 65536 in
theorem w_c11 : (Jvm.Cond.code ({ cls := "com/example/clauseline/clauseline/service/TakenPieces", name := "runEnd", desc := "(JI)I" } : Jvm.MethodName) prog_101_method_13_code (5 : Nat) (Option.some Jvm.ClassFile.FieldType.int)).before args0 about1 = true := code_word (m := ⟨3, 11⟩) (meth := k3m11) (c := k3c11) (by decide +kernel) rfl rfl rfl (by decide +kernel)
set_option maxRecDepth 65536 in
theorem w_c12 : (Jvm.Cond.code ({ cls := "com/example/clauseline/clauseline/service/TakenPieces", name := "take", desc := "(II)V" } : Jvm.MethodName) prog_101_method_2_code (8 : Nat) (Option.none : Option Jvm.ClassFile.FieldType)).before args0 about1 = true := code_word (m := ⟨3, 1⟩) (meth := k3m1) (c := k3c1) (by decide +kernel) rfl rfl rfl (by decide +kernel)
set_option maxRecDepth 65536 in
theorem w_c13 : (Jvm.Cond.code ({ cls := "com/example/clauseline/clauseline/service/TakenPieces", name := "changed", desc := "(I)V" } : Jvm.MethodName) prog_101_method_5_code (3 : Nat) (Option.none : Option Jvm.ClassFile.FieldType)).before args0 about1 = true := code_word (m := ⟨3, 3⟩) (meth := k3m3) (c := k3c3) (by decide +kernel) rfl rfl rfl (by decide +kernel)
set_option maxRecDepth 65536 in
theorem w_c14 : (Jvm.Cond.code ({ cls := "com/example/clauseline/clauseline/service/TakenPieces", name := "firstFree", desc := "(II)I" } : Jvm.MethodName) prog_101_method_4_code (11 : Nat) (Option.some Jvm.ClassFile.FieldType.int)).before args0 about1 = true := code_word (m := ⟨3, 2⟩) (meth := k3m2) (c := k3c2) (by decide +kernel) rfl rfl rfl (by decide +kernel)
set_option maxRecDepth 65536 in
theorem w_c15 : (Jvm.Cond.code ({ cls := "com/example/clauseline/clauseline/service/TakenPieces", name := "scan", desc := "(III)I" } : Jvm.MethodName) prog_101_method_7_code (11 : Nat) (Option.some Jvm.ClassFile.FieldType.int)).before args0 about1 = true := code_word (m := ⟨3, 5⟩) (meth := k3m5) (c := k3c5) (by decide +kernel) rfl rfl rfl (by decide +kernel)
set_option maxRecDepth 65536 in
theorem w_c16 : (Jvm.Cond.code ({ cls := "com/example/clauseline/clauseline/service/TakenPieces", name := "update", desc := "(I)V" } : Jvm.MethodName) prog_101_method_6_code (2 : Nat) (Option.none : Option Jvm.ClassFile.FieldType)).before args0 about1 = true := code_word (m := ⟨3, 4⟩) (meth := k3m4) (c := k3c4) (by decide +kernel) rfl rfl rfl (by decide +kernel)
set_option maxRecDepth 65536 in
theorem w_c17 : (Jvm.Cond.code ({ cls := "com/example/clauseline/clauseline/service/TakenPieces", name := "next", desc := "(I)I" } : Jvm.MethodName) prog_101_method_11_code (2 : Nat) (Option.some Jvm.ClassFile.FieldType.int)).before args0 about1 = true := code_word (m := ⟨3, 9⟩) (meth := k3m9) (c := k3c9) (by decide +kernel) rfl rfl rfl (by decide +kernel)
set_option maxRecDepth 65536 in
theorem w_c18 : (Jvm.Cond.code ({ cls := "com/example/clauseline/clauseline/service/TakenPiecesTakePinLaw", name := "expected", desc := "(IIIII)I" } : Jvm.MethodName) method_3_code (6 : Nat) (Option.some Jvm.ClassFile.FieldType.int)).before args0 about1 = true := code_word (m := ⟨1, 2⟩) (meth := k1m2) (c := k1c2) (by decide +kernel) rfl rfl rfl (by decide +kernel)
set_option maxRecDepth 65536 in
theorem w_c19 : (Jvm.Cond.code ({ cls := "com/example/clauseline/clauseline/service/TakenPieces", name := "merge", desc := "(I)V" } : Jvm.MethodName) prog_101_method_9_code (8 : Nat) (Option.none : Option Jvm.ClassFile.FieldType)).before args0 about1 = true := code_word (m := ⟨3, 7⟩) (meth := k3m7) (c := k3c7) (by decide +kernel) rfl rfl rfl (by decide +kernel)
set_option maxRecDepth 65536 in
theorem w_c20 : (Jvm.Cond.code ({ cls := "com/example/clauseline/clauseline/service/TakenPieces", name := "levelsBelow", desc := "(I)I" } : Jvm.MethodName) prog_101_method_10_code (2 : Nat) (Option.some Jvm.ClassFile.FieldType.int)).before args0 about1 = true := code_word (m := ⟨3, 8⟩) (meth := k3m8) (c := k3c8) (by decide +kernel) rfl rfl rfl (by decide +kernel)
def codes1 : List Jvm.Cond := [Jvm.Cond.code x code maxLocals ret, Jvm.Cond.code ({ cls := "java/lang/Math", name := "min", desc := "(II)I" } : Jvm.MethodName) jdk_29_method_69_code (2 : Nat) (Option.some Jvm.ClassFile.FieldType.int), Jvm.Cond.code ({ cls := "java/lang/Math", name := "max", desc := "(II)I" } : Jvm.MethodName) jdk_29_method_65_code (2 : Nat) (Option.some Jvm.ClassFile.FieldType.int), Jvm.Cond.code ({ cls := "com/example/clauseline/clauseline/service/TakenPieces", name := "<init>", desc := "(I)V" } : Jvm.MethodName) prog_101_method_1_code (5 : Nat) (Option.none : Option Jvm.ClassFile.FieldType), Jvm.Cond.code ({ cls := "java/lang/Object", name := "<init>", desc := "()V" } : Jvm.MethodName) object_method_1_code (1 : Nat) (Option.none : Option Jvm.ClassFile.FieldType), Jvm.Cond.code ({ cls := "java/lang/Integer", name := "highestOneBit", desc := "(I)I" } : Jvm.MethodName) jdk_33_method_45_code (1 : Nat) (Option.some Jvm.ClassFile.FieldType.int), Jvm.Cond.code ({ cls := "java/lang/Integer", name := "numberOfLeadingZeros", desc := "(I)I" } : Jvm.MethodName) jdk_33_method_47_code (2 : Nat) (Option.some Jvm.ClassFile.FieldType.int), Jvm.Cond.code ({ cls := "com/example/clauseline/clauseline/service/TakenPieces", name := "summarize", desc := "(I)V" } : Jvm.MethodName) prog_101_method_8_code (11 : Nat) (Option.none : Option Jvm.ClassFile.FieldType), Jvm.Cond.code ({ cls := "com/example/clauseline/clauseline/service/TakenPieces", name := "nextFree", desc := "(JI)I" } : Jvm.MethodName) prog_101_method_12_code (5 : Nat) (Option.some Jvm.ClassFile.FieldType.int), Jvm.Cond.code ({ cls := "java/lang/Long", name := "numberOfTrailingZeros", desc := "(J)I" } : Jvm.MethodName) jdk_35_method_49_code (3 : Nat) (Option.some Jvm.ClassFile.FieldType.int), Jvm.Cond.code ({ cls := "java/lang/Integer", name := "numberOfTrailingZeros", desc := "(I)I" } : Jvm.MethodName) jdk_33_method_48_code (2 : Nat) (Option.some Jvm.ClassFile.FieldType.int), Jvm.Cond.code ({ cls := "com/example/clauseline/clauseline/service/TakenPieces", name := "runEnd", desc := "(JI)I" } : Jvm.MethodName) prog_101_method_13_code (5 : Nat) (Option.some Jvm.ClassFile.FieldType.int), Jvm.Cond.code ({ cls := "com/example/clauseline/clauseline/service/TakenPieces", name := "take", desc := "(II)V" } : Jvm.MethodName) prog_101_method_2_code (8 : Nat) (Option.none : Option Jvm.ClassFile.FieldType), Jvm.Cond.code ({ cls := "com/example/clauseline/clauseline/service/TakenPieces", name := "changed", desc := "(I)V" } : Jvm.MethodName) prog_101_method_5_code (3 : Nat) (Option.none : Option Jvm.ClassFile.FieldType), Jvm.Cond.code ({ cls := "com/example/clauseline/clauseline/service/TakenPieces", name := "firstFree", desc := "(II)I" } : Jvm.MethodName) prog_101_method_4_code (11 : Nat) (Option.some Jvm.ClassFile.FieldType.int), Jvm.Cond.code ({ cls := "com/example/clauseline/clauseline/service/TakenPieces", name := "scan", desc := "(III)I" } : Jvm.MethodName) prog_101_method_7_code (11 : Nat) (Option.some Jvm.ClassFile.FieldType.int), Jvm.Cond.code ({ cls := "com/example/clauseline/clauseline/service/TakenPieces", name := "update", desc := "(I)V" } : Jvm.MethodName) prog_101_method_6_code (2 : Nat) (Option.none : Option Jvm.ClassFile.FieldType), Jvm.Cond.code ({ cls := "com/example/clauseline/clauseline/service/TakenPieces", name := "next", desc := "(I)I" } : Jvm.MethodName) prog_101_method_11_code (2 : Nat) (Option.some Jvm.ClassFile.FieldType.int), Jvm.Cond.code ({ cls := "com/example/clauseline/clauseline/service/TakenPiecesTakePinLaw", name := "expected", desc := "(IIIII)I" } : Jvm.MethodName) method_3_code (6 : Nat) (Option.some Jvm.ClassFile.FieldType.int), Jvm.Cond.code ({ cls := "com/example/clauseline/clauseline/service/TakenPieces", name := "merge", desc := "(I)V" } : Jvm.MethodName) prog_101_method_9_code (8 : Nat) (Option.none : Option Jvm.ClassFile.FieldType), Jvm.Cond.code ({ cls := "com/example/clauseline/clauseline/service/TakenPieces", name := "levelsBelow", desc := "(I)I" } : Jvm.MethodName) prog_101_method_10_code (2 : Nat) (Option.some Jvm.ClassFile.FieldType.int)]
set_option maxRecDepth 65536 in
theorem codes_eq : words1.filter isCode = codes1 := rfl
theorem w_codes : ∀ c ∈ words1.filter isCode, c.before args0 about1 = true := by
  rw [codes_eq]
  intro c hc
  simp only [codes1, List.mem_cons, List.not_mem_nil, or_false] at hc
  rcases hc with rfl | rfl | rfl | rfl | rfl | rfl | rfl | rfl | rfl | rfl | rfl | rfl | rfl | rfl | rfl | rfl | rfl | rfl | rfl | rfl | rfl
  · exact w_c0
  · exact w_c1
  · exact w_c2
  · exact w_c3
  · exact w_c4
  · exact w_c5
  · exact w_c6
  · exact w_c7
  · exact w_c8
  · exact w_c9
  · exact w_c10
  · exact w_c11
  · exact w_c12
  · exact w_c13
  · exact w_c14
  · exact w_c15
  · exact w_c16
  · exact w_c17
  · exact w_c18
  · exact w_c19
  · exact w_c20
set_option maxRecDepth 65536 in
theorem w_t1 : (words1.take 24).all (fun c => isCode c || c.before args0 about1) = true := by decide +kernel
set_option maxRecDepth 65536 in
theorem w_t2 : ((words1.drop 24).take 24).all (fun c => isCode c || c.before args0 about1) = true := by decide +kernel
set_option maxRecDepth 65536 in
theorem w_t3 : (((words1.drop 24).drop 24).take 24).all (fun c => isCode c || c.before args0 about1) = true := by decide +kernel
set_option maxRecDepth 65536 in
theorem w_t4 : ((((words1.drop 24).drop 24).drop 24).take 24).all (fun c => isCode c || c.before args0 about1) = true := by decide +kernel
set_option maxRecDepth 65536 in
theorem w_t5 : ((((words1.drop 24).drop 24).drop 24).drop 24).all (fun c => isCode c || c.before args0 about1) = true := by decide +kernel
theorem w_tables : (allAtoms (Jvm.Cond.code x code maxLocals ret :: tables_1)).before args0 about1 = true := by
  rw [allAtoms_all]
  show words1.all (fun c => c.before args0 about1) = true
  refine all_split ?_ w_codes
  rw [← List.take_append_drop 24 words1, List.all_append, w_t1, ← List.take_append_drop 24 (words1.drop 24), List.all_append, w_t2, ← List.take_append_drop 24 ((words1.drop 24).drop 24), List.all_append, w_t3, ← List.take_append_drop 24 (((words1.drop 24).drop 24).drop 24), List.all_append, w_t4, w_t5]
  rfl
set_option maxRecDepth 65536 in
theorem w_case : (Jvm.Cond.and given_1 narrow_1).before args0 about1 = true := by decide +kernel
theorem w_applies : (headSpec (Jvm.Cond.code x code maxLocals ret :: tables_1) room_1).applies x e0.platform about1 = true :=
  (Spec.applies_iff w_frames).mpr ⟨w_running, w_runnable, w_alone, w_named, w_hears, w_ripe, w_room, w_tables⟩
theorem atStart : AtStart classFile x code maxLocals ret World_1 tables_1 room_1 Calls_1 rest_1 Pre_1 launch0 p0 e0 about1 theMethod args0 below0 :=
  ⟨lists_1, trivial, launch0.admits_env _ _ _, launch0.least_env, fairChoices_fair.cas, fairChoices_fair.clock, w_frames, w_args, w_heap, w_applies, trivial, trivial, w_case⟩
end start1
theorem witness_1 : WitnessClaimed_1 := ⟨start1.p0, start1.e0, start1.about1, start1.theMethod, start1.args0, start1.below0, start1.atStart⟩
end Jvm.Pilot.@@N@@
