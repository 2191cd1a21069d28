import JvmDerived
import JvmDerived.Pilot.@@N@@Statement
import JvmDerived.Pilot.@@N@@Code
set_option linter.unusedVariables false
set_option linter.unusedSimpArgs false

namespace Jvm.OwnW
open Sem ClassFile Op Lib Jvm.Stand Jvm.Free Jvm.LawKit Jvm.RoadKit
/-! THE LAYER: a walk's state is (cells, slots, what is known of the new cells, pc, locals, stack); 'Go' says that from there the body returns with Q. -/
abbrev Fds := List (String × String × String × Value)
abbrev Desc := (String × Fds) ⊕ (FieldType × List Value)
abbrev Mem := List (Addr × Desc)
abbrev Bdy := MethodName × ByteArray × Nat × Option FieldType × Room
abbrev ob (a : Addr) (C : String) (fs : Fds) : Addr × Desc := (a, .inl (C, fs))
abbrev ar (a : Addr) (ty : FieldType) (vs : List Value) : Addr × Desc := (a, .inr (ty, vs))
def Holds (Z : State) (a0 : Array Value) (h : Heap) (a : Addr) : Desc → Prop
  | .inl (C, fs) => Exa Z h a C ∧ (∀ f ∈ fs, Fld Z h a f.1 f.2.1 f.2.2.1 f.2.2.2 ∧ Laid Z a0 C f.1 f.2.1 f.2.2.1 ∧ ∃ ty, parseFieldDescriptor f.2.2.1 = some ty) ∧ (fs.map (·.2.1)).Nodup
  | .inr (ty, vs) => ∃ c : Cell, Arr Z h a c ty ∧ c.slots.toList = vs ∧ (∀ C, ty = .object C → Ovr Z c.cls C)
def Mo (Z : State) (a0 : Array Value) (h0 : Heap) (ds : Mem) (h : Heap) : Prop :=
  Ext h0 h ∧ (∀ q ∈ ds, h0.size ≤ q.1 ∧ Holds Z a0 h q.1 q.2) ∧ ds.Pairwise (fun q r => q.1 ≠ r.1)
section Facts
variable {Z : State} {a0 : Array Value} {h h' h0 : Heap} {a b : Addr} {D D' : Desc} {ds : Mem} {i : Nat} {sl : Nat} {v : Value}
theorem Holds.lt (H : Holds Z a0 h a D) : a < h.size := by
  rcases D with ⟨C, fs⟩ | ⟨ty, vs⟩
  · exact H.1.lt
  · obtain ⟨c, A, -⟩ := H; exact A.lt
theorem Holds.ext (E : Ext h h') (H : Holds Z a0 h a D) : Holds Z a0 h' a D := by
  rcases D with ⟨C, fs⟩ | ⟨ty, vs⟩
  · exact ⟨H.1.ext E, fun f hf => ⟨(H.2.1 f hf).1.ext E, (H.2.1 f hf).2⟩, H.2.2⟩
  · obtain ⟨c, A, r⟩ := H; exact ⟨c, A.ext E, r⟩
theorem Holds.other (W : Wr h h' a sl v) (H : Holds Z a0 h b D) (q : b ≠ a) : Holds Z a0 h' b D := by
  rcases D with ⟨C, fs⟩ | ⟨ty, vs⟩
  · exact ⟨H.1.wr W, fun f hf => ⟨(H.2.1 f hf).1.other W (Or.inl q), (H.2.1 f hf).2⟩, H.2.2⟩
  · obtain ⟨c, A, r⟩ := H; exact ⟨c, A.other W q, r⟩
theorem Holds.frame {as : List Addr} (K : ∀ (x : Addr) (c : Cell), h[x]? = some c → x ∉ as → h'[x]? = some c) (q : a ∉ as) (H : Holds Z a0 h a D) : Holds Z a0 h' a D := by
  rcases D with ⟨C, fs⟩ | ⟨ty, vs⟩
  · obtain ⟨⟨cell, k, h1, r⟩, F, nd⟩ := H
    refine ⟨⟨cell, k, K _ _ h1 q, r⟩, fun f hf => ?_, nd⟩
    obtain ⟨⟨cell, cf, k, i, f', g1, g⟩, L⟩ := F f hf
    exact ⟨⟨cell, cf, k, i, f', K _ _ g1 q, g⟩, L⟩
  · obtain ⟨c, A, r⟩ := H; exact ⟨c, ⟨K _ _ A.1 q, A.2⟩, r⟩
theorem Ext.refl (h : Heap) : Ext h h := ⟨Nat.le_refl _, fun _ _ q => q⟩
theorem Ext.trans {h1 h2 h3 : Heap} (E : Ext h1 h2) (F : Ext h2 h3) : Ext h1 h3 := ⟨Nat.le_trans E.1 F.1, fun x c q => F.2 x c (E.2 x c q)⟩
theorem Mo.start (Z : State) (a0 : Array Value) (h : Heap) : Mo Z a0 h [] h := ⟨Ext.refl h, fun _ q => (nomatch q), List.Pairwise.nil⟩
theorem Mo.ext (M : Mo Z a0 h0 ds h) (E : Ext h h') : Mo Z a0 h0 ds h' := ⟨Ext.trans M.1 E, fun q hq => ⟨(M.2.1 q hq).1, (M.2.1 q hq).2.ext E⟩, M.2.2⟩
theorem Mo.add (M : Mo Z a0 h0 ds h) (E : Ext h h') (H : Holds Z a0 h' h.size D) : Mo Z a0 h0 (ds ++ [(h.size, D)]) h' := by
  have M' := M.ext E
  refine ⟨M'.1, fun q hq => ?_, List.pairwise_append.mpr ⟨M.2.2, List.pairwise_singleton _ _, fun q hq r hr => ?_⟩⟩
  · rcases List.mem_append.mp hq with hq | hq
    · exact M'.2.1 q hq
    · cases List.mem_singleton.mp hq; exact ⟨M.1.1, H⟩
  · cases List.mem_singleton.mp hr
    exact Nat.ne_of_lt (M.2.1 q hq).2.lt
theorem Mo.at (M : Mo Z a0 h0 ds h) (hi : ds[i]? = some (a, D)) : Holds Z a0 h a D := (M.2.1 _ (List.mem_of_getElem? hi)).2
theorem Mo.new (M : Mo Z a0 h0 ds h) (hi : ds[i]? = some (a, D)) : h0.size ≤ a := (M.2.1 _ (List.mem_of_getElem? hi)).1
theorem Mo.ne (M : Mo Z a0 h0 ds h) {j : Nat} (hi : ds[i]? = some (a, D)) (hj : ds[j]? = some (b, D')) (q : i ≠ j) : a ≠ b := by
  obtain ⟨li, ei⟩ := List.getElem?_eq_some_iff.mp hi
  obtain ⟨lj, ej⟩ := List.getElem?_eq_some_iff.mp hj
  have P := List.pairwise_iff_getElem.mp M.2.2
  rcases Nat.lt_or_gt_of_ne q with q | q
  · have := P i j li lj q; rw [ei, ej] at this; exact this
  · have := P j i lj li q; rw [ei, ej] at this; exact this.symm
theorem Mo.exa {C : String} {fs : Fds} (hi : ds[i]? = some (a, .inl (C, fs))) : ∀ h, Mo Z a0 h0 ds h → Exa Z h a C := fun h M => (M.at hi).1
theorem Mo.wr (M : Mo Z a0 h0 ds h) (hi : ds[i]? = some (a, D)) (W : Wr h h' a sl v) (H : Holds Z a0 h' a D') : Mo Z a0 h0 (ds.set i (a, D')) h' := by
  have n0 := M.new hi
  refine ⟨⟨by rw [W.size]; exact M.1.1, fun x c q => ?_⟩, fun q hq => ?_, ?_⟩
  · obtain ⟨c', e1, -, -, -, e5, -⟩ := wr_at W (M.1.2 x c q)
    rw [← e5 (Nat.ne_of_lt (Nat.lt_of_lt_of_le (Array.getElem?_eq_some_iff.mp q).1 n0))]; exact e1
  · obtain ⟨j, hj⟩ := List.getElem?_of_mem hq
    by_cases e : i = j
    · subst e
      rw [List.getElem?_set_self (List.getElem?_eq_some_iff.mp hi).1] at hj
      cases hj; exact ⟨n0, H⟩
    · rw [List.getElem?_set_ne e] at hj
      exact ⟨M.new hj, (M.at hj).other W (M.ne hj hi (Ne.symm e))⟩
  · refine List.pairwise_iff_getElem.mpr fun j j' l1 l2 q => ?_
    rw [List.length_set] at l1 l2
    have P := List.pairwise_iff_getElem.mp M.2.2 j j' l1 l2 q
    obtain ⟨li, ei⟩ := List.getElem?_eq_some_iff.mp hi
    rw [List.getElem_set, List.getElem_set]
    split
    · rename_i e; subst e
      rw [if_neg (Nat.ne_of_lt q)]
      rw [ei] at P; exact P
    · split
      · rename_i e; subst e; rw [ei] at P; exact P
      · exact P
/-- what has been touched since hs: of its cells at most those in 'as' -/
def Tr (hs : Heap) (as : List Addr) (ds : Mem) (h : Heap) : Prop :=
  hs.size ≤ h.size ∧ (∀ (x : Addr) (c : Cell), hs[x]? = some c → x ∉ as → h[x]? = some c) ∧ ∀ q ∈ ds, q.1 ∈ as ∨ hs.size ≤ q.1
theorem Tr.start (h : Heap) (ds : Mem) : Tr h (ds.map (·.1)) ds h := ⟨Nat.le_refl _, fun _ _ q _ => q, fun q hq => Or.inl (List.mem_map.mpr ⟨q, hq, rfl⟩)⟩
section Trs
variable {hs : Heap} {as : List Addr}
theorem Tr.ext (R : Tr hs as ds h) (E : Ext h h') : Tr hs as ds h' := ⟨Nat.le_trans R.1 E.1, fun x c q r => E.2 x c (R.2.1 x c q r), R.2.2⟩
theorem Tr.add (R : Tr hs as ds h) (E : Ext h h') : Tr hs as (ds ++ [(h.size, D)]) h' := ⟨Nat.le_trans R.1 E.1, fun x c q r => E.2 x c (R.2.1 x c q r), fun q hq => by
  rcases List.mem_append.mp hq with hq | hq
  · exact R.2.2 q hq
  · cases List.mem_singleton.mp hq; exact Or.inr R.1⟩
theorem Tr.out (R : Tr hs as ds h) {q : Addr × Desc} (hq : q ∈ ds) {x : Addr} {c : Cell} (hx : hs[x]? = some c) (hn : x ∉ as) : x ≠ q.1 := fun e => by
  rcases R.2.2 q hq with r | r
  · exact hn (e ▸ r)
  · exact absurd (Array.getElem?_eq_some_iff.mp hx).1 (Nat.not_lt.mpr (e ▸ r))
theorem Tr.wr (R : Tr hs as ds h) (hi : ds[i]? = some (a, D)) (W : Wr h h' a sl v) : Tr hs as (ds.set i (a, D')) h' := by
  refine ⟨by rw [W.size]; exact R.1, fun x c q r => ?_, fun q hq => ?_⟩
  · obtain ⟨c', e1, -, -, -, e5, -⟩ := wr_at W (R.2.1 x c q r)
    rw [← e5 (R.out (List.mem_of_getElem? hi) q r)]; exact e1
  · obtain ⟨j, hj⟩ := List.getElem?_of_mem hq
    by_cases e : i = j
    · subst e
      rw [List.getElem?_set_self (List.getElem?_eq_some_iff.mp hi).1] at hj
      cases hj; exact R.2.2 (a, D) (List.mem_of_getElem? hi)
    · rw [List.getElem?_set_ne e] at hj; exact R.2.2 _ (List.mem_of_getElem? hj)
theorem Tr.call {ds' : Mem} (R : Tr hs as ds h) (R' : Tr h (ds.map (·.1)) ds' h') : Tr hs as ds' h' := by
  refine ⟨Nat.le_trans R.1 R'.1, fun x c q r => R'.2.1 x c (R.2.1 x c q r) fun m => ?_, fun q hq => ?_⟩
  · obtain ⟨e, he, rfl⟩ := List.mem_map.mp m; exact R.out he q r rfl
  · rcases R'.2.2 q hq with m | m
    · obtain ⟨e, he, e2⟩ := List.mem_map.mp m; rw [← e2]; exact R.2.2 e he
    · exact Or.inr (Nat.le_trans R.1 m)
end Trs
end Facts
def LaidL (Z : State) (a0 : Array Value) (C : String) : Fds → Prop
  | [] => True
  | f :: r => (Laid Z a0 C f.1 f.2.1 f.2.2.1 ∧ ∃ ty, parseFieldDescriptor f.2.2.1 = some ty ∧ defaultValue ty = f.2.2.2) ∧ LaidL Z a0 C r
theorem LaidL.mem {Z : State} {a0 : Array Value} {C : String} : ∀ {fs : Fds}, LaidL Z a0 C fs → ∀ f ∈ fs, Laid Z a0 C f.1 f.2.1 f.2.2.1 ∧ ∃ ty, parseFieldDescriptor f.2.2.1 = some ty ∧ defaultValue ty = f.2.2.2
  | [], _, _, hf => (nomatch hf)
  | g :: r, H, f, hf => by
    rcases List.mem_cons.mp hf with rfl | hf
    · exact H.1
    · exact LaidL.mem H.2 f hf
theorem wd {ws : List Jvm.Cond} {a0 : Array Value} {Z : State} (hw : ∀ d ∈ ws, d.before a0 Z = true) (i : Nat) {d : Jvm.Cond} (h : ws[i]? = some d) : d.before a0 Z = true := hw d (List.mem_of_getElem? h)
def Cx (B : Bdy) (Z : State) (p : Program) (s : State) (m : MethodId) (meth : Method) (c : Code) : Prop :=
  p.tables.exec = Jvm.exec ∧ Z.Warmed39 s.vm ∧ c.code = B.2.1 ∧ c.maxLocals = B.2.2.1 ∧ s.vm.findClass B.1.cls = some m.cls ∧ meth.sig.returnType = B.2.2.2.1 ∧ meth.locks = false ∧ meth.name = B.1.name
def Ends (B : Bdy) (Z : State) (a0 : Array Value) (h0 : Heap) (hs : Heap) (as : List Addr) (Q : Option Value → Mem → Prop) (p : Program) (e : Env) (below : List Frame) (s u : State) : Prop :=
  ∃ s₂ v L ds, Steps p.tables e below u s₂ ∧ s₂.status = .running ∧ Ended s₂ below (.returned v) ∧ Mo Z a0 h0 ds s₂.heap ∧ Tr hs as ds s₂.heap ∧ Q v ds ∧ Fr h0.size L ∧ FrameEnd s (.returned v) s₂ L B.2.2.2.2.cells B.2.2.2.2.slots
def Go (B : Bdy) (Z : State) (a0 : Array Value) (h0 : Heap) (Q : Option Value → Mem → Prop) (k n : Nat) (ds : Mem) (pc : Nat) (ls : Array Slot) (st : List Value) : Prop :=
  ∀ (p : Program) (l : Launch) (e : Env) (s : State) (m : MethodId) (args : Array Value) (below : List Frame) (meth : Method) (c : Code) (T : State) (locs : List Loc) (hs : Heap) (as : List Addr),
    Cx B Z p s m meth c → Stand p l e B.2.2.2.2 s m args below meth c T locs k n → Fr h0.size locs → Mo Z a0 h0 ds T.heap → Tr hs as ds T.heap → Ends B Z a0 h0 hs as Q p e below s (T.setTop (mkF m pc ls st))
/-- a callee's answer: this value, this memory -/
def Ret (v0 : Option Value) (ds0 : Mem) (v : Option Value) (ds : Mem) : Prop := v = v0 ∧ ds0 = ds
/-- a yes or no, the memory as it was -/
def Qz (P : Prop) (ds0 : Mem) (v : Option Value) (ds : Mem) : Prop := ∃ z : Int32, v = some (.int z) ∧ ds0 = ds ∧ (z.toInt = 1 ∧ P ∨ z.toInt = 0 ∧ ¬ P)
def MQ (Z : State) (a0 : Array Value) (h0 h : Heap) (as : List Addr) (Q : Option Value → Mem → Prop) (v : Option Value) (h' : Heap) (L : List Loc) : Prop := Fr h0.size L ∧ ∃ ds', Mo Z a0 h0 ds' h' ∧ Tr h as ds' h' ∧ Q v ds'
def Met (B : Bdy) (Z : State) (a0 : Array Value) (h0 : Heap) (as : Array Value) (ds : Mem) (Q : Option Value → Mem → Prop) : Prop :=
  ∀ (l : Launch) (ws : List Jvm.Cond) (h : Heap), Mo Z a0 h0 ds h → MetFree l B.1 (head1 (Jvm.Cond.code B.1 B.2.1 B.2.2.1 B.2.2.2.1 :: ws) B.2.2.2.2) (fun a U => a = as ∧ Z.Warmed39 U.vm ∧ U.heap = h) (fun _ _ _ _ _ => True)
    (fun _ U o U' => ∃ v L, o = .returned v ∧ MQ Z a0 h0 h (ds.map (·.1)) Q v U'.heap L ∧ FrameEnd U o U' L B.2.2.2.2.cells B.2.2.2.2.slots)
section Start
variable {args : Array Value} {s : State} {t : Term}
theorem eqI_v {k : Int32} {idx : List Nat} (h : (Jvm.Cond.eq t (.int k)).value args s none s idx = some true) : t.eval args s none idx s = some (.int k) := by
  have e : (Term.int k).eval args s none idx s = some (.int k) := rfl
  simp only [Cond.value, e] at h
  cases ht : t.eval args s none idx s with
  | none => simp [ht] at h
  | some x => cases x <;> simp [ht] at h ⊢; exact h
theorem eqJ_v {k : Int64} {idx : List Nat} (h : (Jvm.Cond.eq t (.long k)).value args s none s idx = some true) : t.eval args s none idx s = some (.long k) := by
  have e : (Term.long k).eval args s none idx s = some (.long k) := rfl
  simp only [Cond.value, e] at h
  cases ht : t.eval args s none idx s with
  | none => simp [ht] at h
  | some x => cases x <;> simp [ht] at h ⊢; exact h
theorem elem_ix {a : Addr} {cl : Cell} {i : Nat} (ev : ∀ idx, t.eval args s none idx s = some (.ref a)) (ha : s.arrayAt? a = some cl) (hi : i < 2 ^ 31) : (Term.elem t (.index 0)).eval args s none [i] s = cl.slots[i]? := by
  have q : i.toInt32.toInt = i := len_toInt hi
  have q2 : i.toInt32.toNatClampNeg = i := by simp only [Int32.toNatClampNeg, q]; rfl
  rw [elem_f (ev _) (j := i.toInt32) rfl ha (by rw [Int32.lt_iff_toInt_lt, q]; exact Int.not_lt.mpr (Int.natCast_nonneg i)), q2]
theorem eq_ix {a : Addr} {cl : Cell} {i : Nat} {v : Int32} (ev : ∀ idx, t.eval args s none idx s = some (.ref a)) (ha : s.arrayAt? a = some cl) (hi : i < 2 ^ 31) (h : (Jvm.Cond.eq (.elem t (.index 0)) (.int v)).value args s none s [i] = some true) : cl.slots[i]? = some (.int v) :=
  (elem_ix ev ha hi).symm.trans (eqI_v h)
theorem or_ix {G X : Jvm.Cond} {P : Prop} [Decidable P] {i : Nat} (h : (Jvm.Cond.or G X).value args s none s [i] = some true) (hG : G.value args s none s [i] = some (decide P)) (hp : ¬ P) : X.value args s none s [i] = some true := by
  rwa [Cond.or_of_right (nay hG hp)] at h
theorem le_ix {i : Nat} {k : Int32} : (Jvm.Cond.le (.int k) (.index 0)).value args s none s [i] = some (decide (k ≤ i.toInt32)) := by simp [Cond.value, Term.eval]
theorem lt_ix {i : Nat} {k : Int32} : (Jvm.Cond.lt (.index 0) (.int k)).value args s none s [i] = some (decide (i.toInt32 < k)) := by simp [Cond.value, Term.eval]
theorem one_ix {a : Addr} {cl : Cell} {k v : Int32} {i : Nat} (ev : t.eval args s none [] s = some (.ref a)) (hc : s.heap[a]? = some cl) (hi : k.toNatClampNeg = i) (h : (Jvm.Cond.eq (.elem t (.int k)) (.int v)).value args s none s [] = some true) : cl.slots[i]? = some (.int v) := by
  have q := (elem_in (eqI_v h) ev rfl hc).2
  rwa [hi] at q
theorem oneJ_ix {a : Addr} {cl : Cell} {k : Int32} {v : Int64} {i : Nat} (ev : t.eval args s none [] s = some (.ref a)) (hc : s.heap[a]? = some cl) (hi : k.toNatClampNeg = i) (h : (Jvm.Cond.eq (.elem t (.int k)) (.long v)).value args s none s [] = some true) : cl.slots[i]? = some (.long v) := by
  have q := (elem_in (eqJ_v h) ev rfl hc).2
  rwa [hi] at q
theorem len_ix {a : Addr} {cl : Cell} {k : Int32} (ev : t.eval args s none [] s = some (.ref a)) (ha : s.arrayAt? a = some cl) (hk : ¬ k < 0) (h : (Jvm.Cond.eq (.length t) (.int k)).value args s none s [] = some true) : cl.slots.size = k.toNatClampNeg ∧ cl.slots.size < 2 ^ 31 := by
  have q := eqI_v h
  simp only [Term.eval, ev, ha, Option.bind_eq_bind, Option.bind_some] at q
  split at q
  · rename_i hl
    have e : cl.slots.size.toInt32 = k := by simpa using q
    have l : cl.slots.size < 2 ^ 31 := by simpa using hl
    refine ⟨?_, l⟩
    rw [← e]; simp only [Int32.toNatClampNeg, len_toInt l]; rfl
  · simp at q
end Start
theorem cat1 {v : Value} (h : v.isRef = true) : v.category = 1 := by rcases ref_cases h with rfl | ⟨x, rfl⟩ <;> rfl
section Core
variable {B : Bdy} {Z : State} {a0 : Array Value} {h0 : Heap} {Q : Option Value → Mem → Prop} {k n : Nat} {ds : Mem} {pc : Nat} {ls : Array Slot} {st : List Value}
theorem Ends.back {hs : Heap} {as : List Addr} {p : Program} {e : Env} {below : List Frame} {s u u' : State} (F : Ends B Z a0 h0 hs as Q p e below s u') (hst : ∀ t, Steps p.tables e below u' t → Steps p.tables e below u t) : Ends B Z a0 h0 hs as Q p e below s u := by
  obtain ⟨s₂, v, L, ds, h1, r⟩ := F; exact ⟨s₂, v, L, ds, hst _ h1, r⟩
theorem Go.step {pc' : Nat} {ls' : Array Slot} {st' : List Value} (H : Go B Z a0 h0 Q k n ds pc' ls' st')
    (hs : ∀ {p : Program} {l : Launch} {e : Env} {s : State} {m : MethodId} {args : Array Value} {below : List Frame} {meth : Method} {c : Code} {T : State} {locs : List Loc}, Cx B Z p s m meth c → Stand p l e B.2.2.2.2 s m args below meth c T locs k n → Mo Z a0 h0 ds T.heap → ∀ t, Steps p.tables e below (T.setTop (mkF m pc' ls' st')) t → Steps p.tables e below (T.setTop (mkF m pc ls st)) t) :
    Go B Z a0 h0 Q k n ds pc ls st := fun p l e s m args below meth c T locs h1 as C X N M R => (H p l e s m args below meth c T locs h1 as C X N M R).back (hs C X M)
theorem Go.mono {Q' : Option Value → Mem → Prop} (H : Go B Z a0 h0 Q k n ds pc ls st) (hq : ∀ v ds', Q v ds' → Q' v ds') : Go B Z a0 h0 Q' k n ds pc ls st := fun p l e s m args below meth c T locs hs as C X N M R => by
  obtain ⟨s₂, v, L, ds', h1, h2, h3, h4, h4', h5, r⟩ := H p l e s m args below meth c T locs hs as C X N M R
  exact ⟨s₂, v, L, ds', h1, h2, h3, h4, h4', hq _ _ h5, r⟩
/-- what holds of every heap that the memory describes may be used -/
theorem Go.know {P : Prop} (hP : ∀ h, Mo Z a0 h0 ds h → P) (H : P → Go B Z a0 h0 Q k n ds pc ls st) : Go B Z a0 h0 Q k n ds pc ls st := fun p l e s m args below meth c T locs hs as C X N M R => H (hP _ M) p l e s m args below meth c T locs hs as C X N M R
theorem Go.more {k' n' : Nat} (H : Go B Z a0 h0 Q k' n' ds pc ls st) (hk : k ≤ k') (hn : n ≤ n') : Go B Z a0 h0 Q k n ds pc ls st := fun p l e s m args below meth c T locs hs as C X N M R => H p l e s m args below meth c T locs hs as C (X.more hk hn) N M R
theorem Go.sub {ds' : Mem} (hs : List.Sublist ds' ds) (H : Go B Z a0 h0 Q k n ds' pc ls st) : Go B Z a0 h0 Q k n ds pc ls st := fun p l e s m args below meth c T locs h1 as C X N M R =>
  H p l e s m args below meth c T locs h1 as C X N ⟨M.1, fun q hq => M.2.1 q (hs.subset hq), M.2.2.sublist hs⟩ ⟨R.1, R.2.1, fun q hq => R.2.2 q (hs.subset hq)⟩
theorem Mo.perm {ds' : Mem} {h : Heap} (hp : List.Perm ds' ds) (M : Mo Z a0 h0 ds h) : Mo Z a0 h0 ds' h := ⟨M.1, fun q hq => M.2.1 q (hp.mem_iff.mp hq), (hp.pairwise_iff (fun {a b} q => Ne.symm q)).mpr M.2.2⟩
theorem Go.perm {ds' : Mem} (hp : List.Perm ds' ds) (H : Go B Z a0 h0 Q k n ds' pc ls st) : Go B Z a0 h0 Q k n ds pc ls st := fun p l e s m args below meth c T locs hs as C X N M R =>
  H p l e s m args below meth c T locs hs as C X N (M.perm hp) ⟨R.1, R.2.1, fun q hq => R.2.2 q (hp.mem_iff.mp hq)⟩
/-- entry i to the front -/
theorem Go.front (i : Nat) (hi : i < ds.length) (H : Go B Z a0 h0 Q k n (ds[i] :: ds.eraseIdx i) pc ls st) : Go B Z a0 h0 Q k n ds pc ls st := Go.perm (by
  have e : ds = ds.take i ++ ds[i] :: ds.drop (i + 1) := by rw [List.getElem_cons_drop, List.take_append_drop]
  rw [List.eraseIdx_eq_take_drop_succ]
  exact (List.perm_middle.symm).trans (by rw [← e])) H
theorem Met.of {as : Array Value} (hp : plainFor B.1 = true) (he : ∀ m, entryFrame m as B.2.2.1 = mkF m 0 ls []) (H : Go B Z a0 h0 Q 0 0 ds 0 ls []) : Met B Z a0 h0 as ds Q := by
  intro l ws h M
  refine MetFree.of_bodySF hp hisR ?_
  intro p e s m args below meth c s₁ Bd hml hP _
  obtain ⟨rfl, hZ, hh⟩ := hP
  have hown : s.vm.findClass B.1.cls = some m.cls := findClass_of_methodNamed Bd.named
  have hnm := (name_of_methodNamed Bd.named Bd.method).1
  have e0 : s₁.heap = h := by rw [← hh, Bd.state]; rfl
  obtain ⟨s₂, v, L, ds', h1, h2, h3, h4, h4', h5, h6, h7⟩ := H p l e s m args below meth c s₁ [] h (ds.map (·.1)) ⟨Bd.exec, hZ, Bd.bytes, hml, hown, Bd.returns, Bd.notSynchronized, hnm⟩ (Stand.of_body Bd) (Fr.nil _) (by rw [e0]; exact M) (by rw [e0]; exact Tr.start h ds)
  exact ⟨s₂, _, castTop (he m) h1, h2, h3, v, L, rfl, ⟨h6, ds', h4, h4', h5⟩, h7⟩
theorem Met.mono {as : Array Value} {Q' : Option Value → Mem → Prop} (H : Met B Z a0 h0 as ds Q) (hq : ∀ v ds', Q v ds' → Q' v ds') : Met B Z a0 h0 as ds Q' := by
  intro l ws h M p e h1 h2 h3 s m args below h4 h5 h6 h7
  obtain ⟨n, o, g1, g2, g3, v, L, g4, ⟨g5, ds', g6, g6', g7⟩, g8⟩ := H l ws h M p e h1 h2 h3 s m args below h4 h5 h6 h7
  exact ⟨n, o, g1, g2, g3, v, L, g4, ⟨g5, ds', g6, g6', hq _ _ g7⟩, g8⟩
/-- the frame rule: what the callee doesn't know it leaves as it is -/
theorem Met.frame {as : Array Value} (rest : Mem) (H : Met B Z a0 h0 as ds Q) : Met B Z a0 h0 as (ds ++ rest) (fun v D => ∃ ds', Q v ds' ∧ D = ds' ++ rest) := by
  intro l ws h M p e h1 h2 h3 s m args below h4 h5 h6 h7
  have M1 : Mo Z a0 h0 ds h := ⟨M.1, fun q hq => M.2.1 q (List.mem_append_left _ hq), (List.pairwise_append.mp M.2.2).1⟩
  obtain ⟨n, o, g1, g2, g3, v, L, g4, ⟨g5, ds', g6, g6', g7⟩, g8⟩ := H l ws h M1 p e h1 h2 h3 s m args below h4 h5 h6 h7
  have nin : ∀ q ∈ rest, q.1 ∉ ds.map (·.1) := fun q hq m => by
    obtain ⟨r, hr, e⟩ := List.mem_map.mp m
    exact (List.pairwise_append.mp M.2.2).2.2 r hr q hq e
  refine ⟨n, o, g1, g2, g3, v, L, g4, ⟨g5, ds' ++ rest, ⟨g6.1, fun q hq => ?_, List.pairwise_append.mpr ⟨g6.2.2, (List.pairwise_append.mp M.2.2).2.1, fun q hq r hr => ?_⟩⟩, ⟨g6'.1, fun x c q r => g6'.2.1 x c q fun m => r ?_, fun q hq => ?_⟩, ds', g7, rfl⟩, g8⟩
  · rcases List.mem_append.mp hq with hq | hq
    · exact g6.2.1 q hq
    · obtain ⟨m1, m2⟩ := M.2.1 q (List.mem_append_right _ hq)
      exact ⟨m1, m2.frame g6'.2.1 (nin q hq)⟩
  · intro e
    rcases g6'.2.2 q hq with m | m
    · exact nin r hr (e ▸ m)
    · exact absurd (M.2.1 r (List.mem_append_right _ hr)).2.lt (Nat.not_lt.mpr (e ▸ m))
  · rw [List.map_append]; exact List.mem_append_left _ m
  · rcases List.mem_append.mp hq with hq | hq
    · rcases g6'.2.2 q hq with m | m
      · exact Or.inl (by rw [List.map_append]; exact List.mem_append_left _ m)
      · exact Or.inr m
    · exact Or.inl (List.mem_map.mpr ⟨q, List.mem_append_right _ hq, rfl⟩)
theorem Met.know {as : Array Value} {P : Prop} (hP : ∀ h, Mo Z a0 h0 ds h → P) (H : P → Met B Z a0 h0 as ds Q) : Met B Z a0 h0 as ds Q := fun l ws h M => H (hP h M) l ws h M
/-! the returns -/
theorem go_end {v : Option Value} (hk : k ≤ B.2.2.2.2.cells) (hn : n ≤ B.2.2.2.2.slots) (hv : B.2.2.2.1 = none → v = none) (HQ : Q v ds)
    (hs : ∀ {p : Program} {l : Launch} {e : Env} {s : State} {m : MethodId} {args : Array Value} {below : List Frame} {meth : Method} {c : Code} {T : State} {locs : List Loc}, Cx B Z p s m meth c → Stand p l e B.2.2.2.2 s m args below meth c T locs k n → ∀ {fs : List Frame}, (∀ (f : JFrame) (acts : List Action), f.method = m → f.locked = none → f.entered = [] → (doReturn e (T.setTop f) acts v).1 = T.setFrames fs) → Steps p.tables e below (T.setTop (mkF m pc ls st)) (T.setFrames fs)) :
    Go B Z a0 h0 Q k n ds pc ls st := by
  intro p l e s m args below meth c T locs h1 as C X N M R
  obtain ⟨fs, hr, hrun, hended, hW, hsame⟩ := X.leave (v := v) (fun q => hv (C.2.2.2.2.2.1.symm.trans q)) C.2.2.2.2.2.2.1
  exact ⟨_, v, locs, ds, hs C X hr, hrun, hended, M, R, HQ, N, ⟨_, rfl⟩, hW, hsame.mono hk hn⟩
theorem go_return (hd : decode B.2.1 pc = .ok (.return_, 1)) (hret : B.2.2.2.1 = none) (hst : st = []) (hk : k ≤ B.2.2.2.2.cells) (hn : n ≤ B.2.2.2.2.slots) (HQ : Q none ds) : Go B Z a0 h0 Q k n ds pc ls st := by
  subst hst
  exact go_end hk hn (fun _ => rfl) HQ fun C X _ hr => X.returnOut C.1 (C.2.2.2.2.2.1.trans hret) (hb C.2.2.1 hd) hr
theorem go_ireturn {z : Int32} {rest : List Value} {t : FieldType} (hd : decode B.2.1 pc = .ok (.ireturn, 1)) (hret : B.2.2.2.1 = some t) (ht : t = .int ∨ t = .boolean ∨ t = .byte ∨ t = .char ∨ t = .short) (hst : st = .int z :: rest) (hz : narrow t (.int z) = .int z) (hk : k ≤ B.2.2.2.2.cells) (hn : n ≤ B.2.2.2.2.slots) (HQ : Q (some (.int z)) ds) : Go B Z a0 h0 Q k n ds pc ls st := by
  subst hst
  exact go_end hk hn (fun q => by rw [hret] at q; cases q) HQ fun C X _ hr => retOut X C.1 (C.2.2.2.2.2.1.trans hret) hz (Or.inl ⟨rfl, ht, _, rfl⟩) (hb C.2.2.1 hd) hr
theorem go_lreturn {z : Int64} {rest : List Value} (hd : decode B.2.1 pc = .ok (.lreturn, 1)) (hret : B.2.2.2.1 = some .long) (hst : st = .long z :: rest) (hk : k ≤ B.2.2.2.2.cells) (hn : n ≤ B.2.2.2.2.slots) (HQ : Q (some (.long z)) ds) : Go B Z a0 h0 Q k n ds pc ls st := by
  subst hst
  exact go_end hk hn (fun q => by rw [hret] at q; cases q) HQ fun C X _ hr => retOut X C.1 (C.2.2.2.2.2.1.trans hret) rfl (Or.inr (Or.inl ⟨rfl, rfl, _, rfl⟩)) (hb C.2.2.1 hd) hr
theorem go_areturn {w : Value} {rest : List Value} {t : FieldType} (hd : decode B.2.1 pc = .ok (.areturn, 1)) (hret : B.2.2.2.1 = some t) (ht : t.isReference = true) (hw : w.isRef = true) (hst : st = w :: rest) (hk : k ≤ B.2.2.2.2.cells) (hn : n ≤ B.2.2.2.2.slots) (HQ : Q (some w) ds) : Go B Z a0 h0 Q k n ds pc ls st := by
  subst hst
  have hz : narrow t w = w := by rcases ref_cases hw with rfl | ⟨x, rfl⟩ <;> cases t <;> rfl
  exact go_end hk hn (fun q => by rw [hret] at q; cases q) HQ fun C X _ hr => retOut X C.1 (C.2.2.2.2.2.1.trans hret) hz (Or.inr (Or.inr (Or.inr (Or.inr ⟨rfl, ht, hw⟩)))) (hb C.2.2.1 hd) hr
/-! branches -/
def cmpP : ClassFile.Cond → Int32 → Int32 → Prop
  | .eq, x, y => x.toInt = y.toInt
  | .ne, x, y => x.toInt ≠ y.toInt
  | .lt, x, y => x.toInt < y.toInt
  | .ge, x, y => y.toInt ≤ x.toInt
  | .gt, x, y => y.toInt < x.toInt
  | .le, x, y => x.toInt ≤ y.toInt
def cmpZ : ClassFile.Cond → Int32 → Prop
  | .eq, x => x.toInt = 0
  | .ne, x => x.toInt ≠ 0
  | .lt, x => x.toInt < 0
  | .ge, x => 0 ≤ x.toInt
  | .gt, x => 0 < x.toInt
  | .le, x => x.toInt ≤ 0
theorem cmpP_iff (cd : ClassFile.Cond) (x y : Int32) : if_icmp.holds cd x y = true ↔ cmpP cd x y := by
  cases cd <;> simp [if_icmp.holds, cmpP, Int32.lt_iff_toInt_lt, Int32.le_iff_toInt_le, Int32.toInt_inj]
theorem cmpZ_iff (cd : ClassFile.Cond) (x : Int32) : ifCond.holds cd x = true ↔ cmpZ cd x := by
  have h0 : (0 : Int32).toInt = 0 := rfl
  cases cd <;> simp only [ifCond.holds, cmpZ, Int32.lt_iff_toInt_lt, Int32.le_iff_toInt_le, ← Int32.toInt_inj, h0, decide_eq_true_eq, beq_iff_eq, bne_iff_ne, ne_eq, gt_iff_lt, ge_iff_le]
theorem go_if {cd : ClassFile.Cond} {x : Int32} {rest : List Value} {o : Int} (q1 q2 : Nat) (hp : pc + 3 = q2) (ho : 0 ≤ (pc : Int) + o) (hq : ((pc : Int) + o).toNat = q1) (hd : decode B.2.1 pc = .ok (.ifCond cd o, 3)) (hst : st = .int x :: rest)
    (H1 : cmpZ cd x → Go B Z a0 h0 Q k n ds q1 ls rest) (H2 : ¬ cmpZ cd x → Go B Z a0 h0 Q k n ds q2 ls rest) : Go B Z a0 h0 Q k n ds pc ls st := by
  subst hst hp
  cases hc : ifCond.holds cd x
  · exact (H2 fun q => by rw [(cmpZ_iff cd x).mpr q] at hc; cases hc).step fun C X _ t hr => XS.ifNo X.here C.1 rfl (hb C.2.2.1 hd) rfl hc hr
  · exact (H1 ((cmpZ_iff cd x).mp hc)).step fun C X _ t hr => XS.ifYes X.here C.1 rfl rfl (hb C.2.2.1 hd) rfl hc ho hq hr
theorem go_icmp {cd : ClassFile.Cond} {x y : Int32} {rest : List Value} {o : Int} (q1 q2 : Nat) (hp : pc + 3 = q2) (ho : 0 ≤ (pc : Int) + o) (hq : ((pc : Int) + o).toNat = q1) (hd : decode B.2.1 pc = .ok (.if_icmp cd o, 3)) (hst : st = .int y :: .int x :: rest)
    (H1 : cmpP cd x y → Go B Z a0 h0 Q k n ds q1 ls rest) (H2 : ¬ cmpP cd x y → Go B Z a0 h0 Q k n ds q2 ls rest) : Go B Z a0 h0 Q k n ds pc ls st := by
  subst hst hp
  cases hc : if_icmp.holds cd x y
  · exact (H2 fun q => by rw [(cmpP_iff cd x y).mpr q] at hc; cases hc).step fun C X _ t hr => XS.icmpNo X.here C.1 rfl (hb C.2.2.1 hd) rfl hc hr
  · exact (H1 ((cmpP_iff cd x y).mp hc)).step fun C X _ t hr => XS.icmpYes X.here C.1 rfl rfl (hb C.2.2.1 hd) rfl hc ho hq hr
def acP : ACond → Value → Value → Prop
  | .eq, x, y => x = y
  | .ne, x, y => x ≠ y
theorem acP_iff (cd : ACond) (x y : Value) : acV cd (decide (x = y)) = true ↔ acP cd x y := by cases cd <;> simp [acV, acP]
theorem go_acmp {cd : ACond} {x y : Value} {rest : List Value} {o : Int} (q1 q2 : Nat) (hp : pc + 3 = q2) (ho : 0 ≤ (pc : Int) + o) (hq : ((pc : Int) + o).toNat = q1) (hd : decode B.2.1 pc = .ok (.if_acmp cd o, 3)) (hst : st = y :: x :: rest) (hx : x.isRef = true) (hy : y.isRef = true)
    (H1 : acP cd x y → Go B Z a0 h0 Q k n ds q1 ls rest) (H2 : ¬ acP cd x y → Go B Z a0 h0 Q k n ds q2 ls rest) : Go B Z a0 h0 Q k n ds pc ls st := by
  subst hst hp
  cases hc : acV cd (decide (x = y))
  · exact (H2 fun q => by rw [(acP_iff cd x y).mpr q] at hc; cases hc).step fun C X _ t hr => RoadKit.acmp X C.1 rfl hx hy rfl (hb C.2.2.1 hd) rfl rfl ho (by rw [hc]; rfl) hr
  · exact (H1 ((acP_iff cd x y).mp hc)).step fun C X _ t hr => RoadKit.acmp X C.1 rfl hx hy rfl (hb C.2.2.1 hd) rfl rfl ho (by rw [hc]; exact hq.symm) hr
theorem go_ifnullY {rest : List Value} {o : Int} (q1 : Nat) (ho : 0 ≤ (pc : Int) + o) (hq : ((pc : Int) + o).toNat = q1) (hd : decode B.2.1 pc = .ok (.ifnull o, 3)) (hst : st = .null :: rest) (H : Go B Z a0 h0 Q k n ds q1 ls rest) : Go B Z a0 h0 Q k n ds pc ls st := by
  subst hst; exact H.step fun C X _ t hr => XS.ifnullYes X.here C.1 rfl rfl (hb C.2.2.1 hd) rfl ho hq hr
theorem go_ifnullN {b : Addr} {rest : List Value} {o : Int} (q2 : Nat) (hp : pc + 3 = q2) (hd : decode B.2.1 pc = .ok (.ifnull o, 3)) (hst : st = .ref b :: rest) (H : Go B Z a0 h0 Q k n ds q2 ls rest) : Go B Z a0 h0 Q k n ds pc ls st := by
  subst hst hp; exact H.step fun C X _ t hr => XS.ifnullNo X.here C.1 rfl (hb C.2.2.1 hd) rfl hr
theorem go_ifnonnullY {b : Addr} {rest : List Value} {o : Int} (q1 : Nat) (ho : 0 ≤ (pc : Int) + o) (hq : ((pc : Int) + o).toNat = q1) (hd : decode B.2.1 pc = .ok (.ifnonnull o, 3)) (hst : st = .ref b :: rest) (H : Go B Z a0 h0 Q k n ds q1 ls rest) : Go B Z a0 h0 Q k n ds pc ls st := by
  subst hst; exact H.step fun C X _ t hr => XS.ifnonnullYes X.here C.1 rfl rfl (hb C.2.2.1 hd) rfl ho hq hr
theorem go_ifnonnullN {rest : List Value} {o : Int} (q2 : Nat) (hp : pc + 3 = q2) (hd : decode B.2.1 pc = .ok (.ifnonnull o, 3)) (hst : st = .null :: rest) (H : Go B Z a0 h0 Q k n ds q2 ls rest) : Go B Z a0 h0 Q k n ds pc ls st := by
  subst hst hp; exact H.step fun C X _ t hr => XS.ifnonnullNo X.here C.1 rfl (hb C.2.2.1 hd) rfl hr
theorem go_goto {o : Int} (q : Nat) (ho : 0 ≤ (pc : Int) + o) (hq : ((pc : Int) + o).toNat = q) (hd : decode B.2.1 pc = .ok (.goto o, 3)) (H : Go B Z a0 h0 Q k n ds q ls st) : Go B Z a0 h0 Q k n ds pc ls st :=
  H.step fun C X _ t hr => XS.goto X.here C.1 rfl rfl (hb C.2.2.1 hd) ho hq hr
/-! constants of the pool -/
theorem go_ldc {idx : Nat} {v : Int32} (q : Nat) (hp : pc + 2 = q) (hd : decode B.2.1 pc = .ok (.ldc idx, 2)) (w : (Jvm.Cond.constant B.1.cls idx v).before a0 Z = true) (H : Go B Z a0 h0 Q k n ds q ls (.int v :: st)) : Go B Z a0 h0 Q k n ds pc ls st := by
  subst hp; exact H.step fun C X _ t hr => X.ldcInt C.1 C.2.2.2.2.1 (mvT C.2.1 w) (g := mkF _ pc ls st) rfl (hb C.2.2.1 hd) t hr
theorem go_ldc2 {idx : Nat} {v : Int64} (q : Nat) (hp : pc + 3 = q) (hd : decode B.2.1 pc = .ok (.ldc2_w idx, 3)) (w : (Jvm.Cond.constantLong B.1.cls idx v).before a0 Z = true) (H : Go B Z a0 h0 Q k n ds q ls (.long v :: st)) : Go B Z a0 h0 Q k n ds pc ls st := by
  subst hp; exact H.step fun C X _ t hr => X.ldc2Long C.1 C.2.2.2.2.1 (mvT C.2.1 w) (g := mkF _ pc ls st) rfl (hb C.2.2.1 hd) t hr
/-! the heap -/
theorem go_new {C : String} {idx sz : Nat} (q : Nat) (hp : pc + 3 = q) (hd : decode B.2.1 pc = .ok (.new idx, 3)) (w : (Jvm.Cond.classLink B.1.cls idx C).before a0 Z = true) (wi : (Jvm.Cond.instantiable C sz).before a0 Z = true) (wz : (Jvm.Cond.initialized C).before a0 Z = true)
    (hk : k + 1 ≤ B.2.2.2.2.cells) (hn : n + sz ≤ B.2.2.2.2.slots) (fs : Fds) (hfs : LaidL Z a0 C fs) (hnd : (fs.map (·.2.1)).Nodup) (H : ∀ a, Go B Z a0 h0 Q (k + 1) (n + sz) (ds ++ [ob a C fs]) q ls (.ref a :: st)) : Go B Z a0 h0 Q k n ds pc ls st := by
  subst hp
  intro p l e s m args below meth c T locs hs as Cc X N M R
  obtain ⟨T', h', X', e', E', A', D', -, st'⟩ := newO X Cc.1 Cc.2.1 Cc.2.2.2.2.1 w wi wz rfl (g := mkF m pc ls st) rfl (hb Cc.2.2.1 hd) hk hn
  refine (H T.heap.size p l e s m args below meth c T' locs hs as Cc X' N ?_ (by rw [e']; exact R.add E')).back st'
  rw [e']
  refine M.add E' ⟨A', fun f hf => ?_, hnd⟩
  obtain ⟨L, ty, h1, h2⟩ := hfs.mem f hf
  exact ⟨h2 ▸ D' L h1, L, ty, h1⟩
theorem go_newarr {aty : ArrayType} {x : Int32} {rest : List Value} (q : Nat) (hp : pc + 2 = q) (hd : decode B.2.1 pc = .ok (.newarray aty, 2)) (hst : st = .int x :: rest) (w : (Jvm.Cond.arrayClass (newarray.typeOf aty)).before a0 Z = true) (hx : ¬ x < 0) (cap : Nat) (hcap : x.toNatClampNeg ≤ cap) (hbb : cap * 8 ≤ 536870912)
    (hk : k + 1 ≤ B.2.2.2.2.cells) (hn : n + cap ≤ B.2.2.2.2.slots) (H : ∀ a, Go B Z a0 h0 Q (k + 1) (n + cap) (ds ++ [ar a (newarray.typeOf aty) (List.replicate x.toNatClampNeg (defaultValue (newarray.typeOf aty)))]) q ls (.ref a :: rest)) : Go B Z a0 h0 Q k n ds pc ls st := by
  subst hp hst
  intro p l e s m args below meth c T locs hs as Cc X N M R
  obtain ⟨T', h', cA, X', e', E', A', st'⟩ := newP X Cc.1 Cc.2.1 w rfl (g := mkF m pc ls (.int x :: rest)) rfl (hb Cc.2.2.1 hd) rfl hx hcap hbb hk hn
  refine (H T.heap.size p l e s m args below meth c T' locs hs as Cc X' N ?_ (by rw [e']; exact R.add E')).back st'
  rw [e']
  exact M.add E' ⟨_, A', by simp [newA], fun C q => by cases aty <;> cases q⟩
theorem go_anewarr {C : String} {idx : Nat} {x : Int32} {rest : List Value} (q : Nat) (hp : pc + 3 = q) (hd : decode B.2.1 pc = .ok (.anewarray idx, 3)) (hst : st = .int x :: rest) (w : (Jvm.Cond.classLink B.1.cls idx C).before a0 Z = true) (w2 : (Jvm.Cond.arrayOver (.object C)).before a0 Z = true) (hx : ¬ x < 0) (cap : Nat) (hcap : x.toNatClampNeg ≤ cap) (hbb : cap * 8 ≤ 536870912)
    (hk : k + 1 ≤ B.2.2.2.2.cells) (hn : n + cap ≤ B.2.2.2.2.slots) (H : ∀ a, Go B Z a0 h0 Q (k + 1) (n + cap) (ds ++ [ar a (.object C) (List.replicate x.toNatClampNeg .null)]) q ls (.ref a :: rest)) : Go B Z a0 h0 Q k n ds pc ls st := by
  subst hp hst
  intro p l e s m args below meth c T locs hs as Cc X N M R
  obtain ⟨T', h', cA, X', e', E', A', O', st'⟩ := newR X Cc.1 Cc.2.1 Cc.2.2.2.2.1 w w2 rfl (g := mkF m pc ls (.int x :: rest)) rfl (hb Cc.2.2.1 hd) rfl hx hcap hbb hk hn
  refine (H T.heap.size p l e s m args below meth c T' locs hs as Cc X' N ?_ (by rw [e']; exact R.add E')).back st'
  rw [e']
  exact M.add E' ⟨_, A', by simp [newA, defaultValue], fun C' q => by cases q; exact O'⟩
theorem go_getG {a : Addr} {O R0 nm d : String} {v : Value} {idx : Nat} {rest : List Value} (q : Nat) (hp : pc + 3 = q) (hd : decode B.2.1 pc = .ok (.getfield idx, 3)) (hst : st = .ref a :: rest) (w : (Jvm.Cond.fieldLink B.1.cls idx R0 nm d).before a0 Z = true) (via : Via Z R0 O nm d) (hF : ∀ h, Mo Z a0 h0 ds h → Fld Z h a O nm d v)
    (H : Go B Z a0 h0 Q k n ds q ls (v :: rest)) : Go B Z a0 h0 Q k n ds pc ls st := by
  subst hp hst
  intro p l e s m args below meth c T locs hs as Cc X N M R
  obtain ⟨T', X', e', st'⟩ := getF X Cc.1 Cc.2.1 Cc.2.2.2.2.1 (host := "") (Or.inl w) via rfl (hF _ M) (g := mkF m pc ls (.ref a :: rest)) rfl rfl (hb Cc.2.2.1 hd)
  exact (H p l e s m args below meth c T' locs hs as Cc X' N (by rw [e']; exact M) (by rw [e']; exact R)).back st'
theorem go_get {a : Addr} {C O nm d : String} {fs : Fds} {v : Value} {idx : Nat} {rest : List Value} (i j q : Nat) (hp : pc + 3 = q) (hd : decode B.2.1 pc = .ok (.getfield idx, 3)) (hst : st = .ref a :: rest) (hi : ds[i]? = some (ob a C fs)) (hj : fs[j]? = some (O, nm, d, v)) (w : (Jvm.Cond.fieldLink B.1.cls idx O nm d).before a0 Z = true)
    (H : Go B Z a0 h0 Q k n ds q ls (v :: rest)) : Go B Z a0 h0 Q k n ds pc ls st :=
  go_getG q hp hd hst w Via.refl (fun h M => ((M.at hi).2.1 _ (List.mem_of_getElem? hj)).1) H
theorem go_put {a : Addr} {C O nm d : String} {fs : Fds} {v old : Value} {idx kk : Nat} {rest : List Value} {ty : FieldType} (i j q : Nat) (hp : pc + 3 = q) (hd : decode B.2.1 pc = .ok (.putfield idx, 3)) (hst : st = v :: .ref a :: rest) (hi : ds[i]? = some (ob a C fs)) (hj : fs[j]? = some (O, nm, d, old))
    (w : (Jvm.Cond.fieldLink B.1.cls idx O nm d).before a0 Z = true) (L : (Jvm.Cond.lays C O nm d).before a0 Z = true ∨ ((Jvm.Cond.laysFinal C O nm d).before a0 Z = true ∧ B.1.cls = O ∧ B.1.name = "<init>")) (wi : (Jvm.Cond.instantiable C kk).before a0 Z = true)
    (hty : parseFieldDescriptor d = some ty) (hnn : narrow ty v = v) (hf : fits ty v = true) (H : Go B Z a0 h0 Q k n (ds.set i (ob a C (fs.set j (O, nm, d, v)))) q ls rest) : Go B Z a0 h0 Q k n ds pc ls st := by
  subst hp hst
  intro p l e s m args below meth c T locs hs as Cc X N M R
  have HA := M.at hi
  obtain ⟨F, La, -⟩ := HA.2.1 _ (List.mem_of_getElem? hj)
  have hown : s.vm.findClass B.1.cls = some m.cls := Cc.2.2.2.2.1
  obtain ⟨T', h', X', e', W', st'⟩ := putF X Cc.1 Cc.2.1 hown (host := "") (Or.inl w) Via.refl rfl F HA.1 (L.imp id fun q => ⟨q.1, q.2.1, Cc.2.2.2.2.2.2.2.trans q.2.2⟩) wi hty hnn hf (g := mkF m pc ls (v :: .ref a :: rest)) rfl rfl (hb Cc.2.2.1 hd)
  refine (H p l e s m args below meth c T' _ hs as Cc X' (Fr.snoc X' N (M.new hi)) ?_ (by rw [e']; exact R.wr hi W')).back st'
  rw [e']
  refine M.wr hi W' ⟨HA.1.wr W', fun f hf => ?_, ?_⟩
  · obtain ⟨j', hj'⟩ := List.getElem?_of_mem hf
    by_cases e : j = j'
    · subst e
      rw [List.getElem?_set_self (List.getElem?_eq_some_iff.mp hj).1] at hj'
      cases hj'; exact ⟨F.same W', La, ty, hty⟩
    · rw [List.getElem?_set_ne e] at hj'
      obtain ⟨F1, L1, ty1, ht1⟩ := HA.2.1 f (List.mem_of_getElem? hj')
      refine ⟨F1.other W' (Or.inr (slot_ne L1 La (fun q => ?_) ht1 hty)), L1, ty1, ht1⟩
      have P := List.pairwise_iff_getElem.mp HA.2.2
      obtain ⟨l1, e1⟩ := List.getElem?_eq_some_iff.mp hj
      obtain ⟨l2, e2⟩ := List.getElem?_eq_some_iff.mp hj'
      rcases Nat.lt_or_gt_of_ne e with r | r
      · have z := P j j' (by simpa using l1) (by simpa using l2) r
        simp only [List.getElem_map, e1, e2] at z; exact z q.symm
      · have z := P j' j (by simpa using l2) (by simpa using l1) r
        simp only [List.getElem_map, e1, e2] at z; exact z q
  · rw [List.map_set]
    have : (fs.map (·.2.1)).set j nm = fs.map (·.2.1) := by
      apply List.ext_getElem?
      intro t
      by_cases e : j = t
      · subst e; rw [List.getElem?_set_self (by simpa using (List.getElem?_eq_some_iff.mp hj).1)]; simp [hj]
      · rw [List.getElem?_set_ne e]
    show ((fs.map (·.2.1)).set j nm).Nodup
    rw [this]; exact HA.2.2
theorem go_getS {O nm d : String} {v : Value} {idx : Nat} (q : Nat) (hp : pc + 3 = q) (hd : decode B.2.1 pc = .ok (.getstatic idx, 3)) (w : (Jvm.Cond.fieldLink B.1.cls idx O nm d).before a0 Z = true) (F : Sta Z h0 O nm d v) (H : Go B Z a0 h0 Q k n ds q ls (v :: st)) : Go B Z a0 h0 Q k n ds pc ls st := by
  subst hp
  intro p l e s m args below meth c T locs hs as Cc X N M R
  obtain ⟨T', X', e', st'⟩ := getS X Cc.1 Cc.2.1 (host := "") Cc.2.2.2.2.1 w Via.refl rfl (F.ext M.1) (g := mkF m pc ls st) rfl (hb Cc.2.2.1 hd)
  exact (H p l e s m args below meth c T' locs hs as Cc X' N (by rw [e']; exact M) (by rw [e']; exact R)).back st'
/-! arrays -/
theorem Holds.arr {h : Heap} {a : Addr} {ty : FieldType} {vs : List Value} (H : Holds Z a0 h a (.inr (ty, vs))) : ∃ c : Cell, Arr Z h a c ty ∧ c.slots = vs.toArray ∧ (∀ C, ty = .object C → Ovr Z c.cls C) := by
  obtain ⟨c, A, e, r⟩ := H; exact ⟨c, A, by rw [← e], r⟩
theorem inb {c : Cell} {vs : List Value} {j : Int32} {v : Value} (e : c.slots = vs.toArray) (hj : ¬ j < 0) (hv : vs[j.toNatClampNeg]? = some v) : ¬ (j < 0 ∨ c.slots.size ≤ j.toNatClampNeg) ∧ c.slots[j.toNatClampNeg]? = some v := by
  have l1 := (List.getElem?_eq_some_iff.mp hv).1
  rw [e]; exact ⟨fun q => q.elim hj fun q => by simp at q; omega, by simpa using hv⟩
theorem go_alenG {a : Addr} {z : Int32} {ty : FieldType} {rest : List Value} (q : Nat) (hp : pc + 1 = q) (hd : decode B.2.1 pc = .ok (.arraylength, 1)) (hst : st = .ref a :: rest) (hA : ∀ h, Mo Z a0 h0 ds h → ∃ c : Cell, Arr Z h a c ty ∧ c.slots.size.toInt32 = z) (H : Go B Z a0 h0 Q k n ds q ls (.int z :: rest)) : Go B Z a0 h0 Q k n ds pc ls st := by
  subst hp hst
  refine H.step fun C X M t hr => ?_
  obtain ⟨cl, A, e⟩ := hA _ M
  exact X.arraylength C.1 A.1 (State.isArrayOf_alike C.2.1.alike A.2.1) (g := mkF _ pc ls (.ref a :: rest)) rfl rfl (hb C.2.2.1 hd) t (by rw [e]; exact hr)
theorem go_alen {a : Addr} {ty : FieldType} {vs : List Value} {rest : List Value} (i q : Nat) (hp : pc + 1 = q) (hd : decode B.2.1 pc = .ok (.arraylength, 1)) (hst : st = .ref a :: rest) (hi : ds[i]? = some (ar a ty vs)) (H : Go B Z a0 h0 Q k n ds q ls (.int vs.length.toInt32 :: rest)) : Go B Z a0 h0 Q k n ds pc ls st :=
  go_alenG q hp hd hst (fun h M => by obtain ⟨c, A, e, -⟩ := (M.at hi).arr; exact ⟨c, A, by rw [e]; simp⟩) H
def El (Z : State) (h : Heap) (a : Addr) (ty : FieldType) (j : Int32) (v : Value) : Prop := ∃ c : Cell, Arr Z h a c ty ∧ ¬ (j < 0 ∨ c.slots.size ≤ j.toNatClampNeg) ∧ c.slots[j.toNatClampNeg]? = some v
theorem El.ext {h h' : Heap} {a : Addr} {ty : FieldType} {j : Int32} {v : Value} (E : Ext h h') (F : El Z h a ty j v) : El Z h' a ty j v := by obtain ⟨c, A, r⟩ := F; exact ⟨c, A.ext E, r⟩
theorem Mo.el {a : Addr} {ty : FieldType} {vs : List Value} {i : Nat} {j : Int32} {v : Value} (hi : ds[i]? = some (ar a ty vs)) (hj : ¬ j < 0) (hv : vs[j.toNatClampNeg]? = some v) : ∀ h, Mo Z a0 h0 ds h → El Z h a ty j v := fun h M => by
  obtain ⟨c, A, e, -⟩ := (M.at hi).arr; exact ⟨c, A, inb e hj hv⟩
theorem go_iaload {a : Addr} {j : Int32} {v : Value} {rest : List Value} (q : Nat) (hp : pc + 1 = q) (hd : decode B.2.1 pc = .ok (.iaload, 1)) (hst : st = .int j :: .ref a :: rest) (hA : ∀ h, Mo Z a0 h0 ds h → El Z h a .int j v) (H : Go B Z a0 h0 Q k n ds q ls (v :: rest)) : Go B Z a0 h0 Q k n ds pc ls st := by
  subst hp hst
  refine H.step fun C X M t hr => ?_
  obtain ⟨cl, A, h1, h2⟩ := hA _ M
  exact X.iaload C.1 A.1 (State.isArrayOf_alike C.2.1.alike A.2.1) A.2.2 h1 h2 (g := mkF _ pc ls (.int j :: .ref a :: rest)) rfl rfl (hb C.2.2.1 hd) t hr
theorem go_laload {a : Addr} {j : Int32} {v : Value} {rest : List Value} (q : Nat) (hp : pc + 1 = q) (hd : decode B.2.1 pc = .ok (.laload, 1)) (hst : st = .int j :: .ref a :: rest) (hA : ∀ h, Mo Z a0 h0 ds h → El Z h a .long j v) (H : Go B Z a0 h0 Q k n ds q ls (v :: rest)) : Go B Z a0 h0 Q k n ds pc ls st := by
  subst hp hst
  refine H.step fun C X M t hr => ?_
  obtain ⟨cl, A, h1, h2⟩ := hA _ M
  exact X.laload C.1 A.1 (State.isArrayOf_alike C.2.1.alike A.2.1) A.2.2 h1 h2 (g := mkF _ pc ls (.int j :: .ref a :: rest)) rfl rfl (hb C.2.2.1 hd) t hr
theorem go_caload {a : Addr} {j : Int32} {v : Value} {rest : List Value} (q : Nat) (hp : pc + 1 = q) (hd : decode B.2.1 pc = .ok (.caload, 1)) (hst : st = .int j :: .ref a :: rest) (hA : ∀ h, Mo Z a0 h0 ds h → El Z h a .char j v) (H : Go B Z a0 h0 Q k n ds q ls (v :: rest)) : Go B Z a0 h0 Q k n ds pc ls st := by
  subst hp hst
  refine H.step fun C X M t hr => ?_
  obtain ⟨cl, A, h1, h2⟩ := hA _ M
  exact X.caload C.1 A.1 (State.isArrayOf_alike C.2.1.alike A.2.1) A.2.2 h1 h2 (g := mkF _ pc ls (.int j :: .ref a :: rest)) rfl rfl (hb C.2.2.1 hd) t hr
theorem go_saload {a : Addr} {j : Int32} {v : Value} {rest : List Value} (q : Nat) (hp : pc + 1 = q) (hd : decode B.2.1 pc = .ok (.saload, 1)) (hst : st = .int j :: .ref a :: rest) (hA : ∀ h, Mo Z a0 h0 ds h → El Z h a .short j v) (H : Go B Z a0 h0 Q k n ds q ls (v :: rest)) : Go B Z a0 h0 Q k n ds pc ls st := by
  subst hp hst
  refine H.step fun C X M t hr => ?_
  obtain ⟨cl, A, h1, h2⟩ := hA _ M
  exact X.saload C.1 A.1 (State.isArrayOf_alike C.2.1.alike A.2.1) A.2.2 h1 h2 (g := mkF _ pc ls (.int j :: .ref a :: rest)) rfl rfl (hb C.2.2.1 hd) t hr
theorem go_baload {a : Addr} {j : Int32} {v : Value} {rest : List Value} (q : Nat) (hp : pc + 1 = q) (hd : decode B.2.1 pc = .ok (.baload, 1)) (hst : st = .int j :: .ref a :: rest) (hA : ∀ h, Mo Z a0 h0 ds h → El Z h a .byte j v) (H : Go B Z a0 h0 Q k n ds q ls (v :: rest)) : Go B Z a0 h0 Q k n ds pc ls st := by
  subst hp hst
  refine H.step fun C X M t hr => ?_
  obtain ⟨cl, A, h1, h2⟩ := hA _ M
  exact X.baloadBytes C.1 A.1 (State.isArrayOf_alike C.2.1.alike A.2.1) A.2.2 h1 h2 (g := mkF _ pc ls (.int j :: .ref a :: rest)) rfl rfl (hb C.2.2.1 hd) t hr
theorem go_zaload {a : Addr} {j : Int32} {v : Value} {rest : List Value} (q : Nat) (hp : pc + 1 = q) (hd : decode B.2.1 pc = .ok (.baload, 1)) (hst : st = .int j :: .ref a :: rest) (hA : ∀ h, Mo Z a0 h0 ds h → El Z h a .boolean j v) (H : Go B Z a0 h0 Q k n ds q ls (v :: rest)) : Go B Z a0 h0 Q k n ds pc ls st := by
  subst hp hst
  refine H.step fun C X M t hr => ?_
  obtain ⟨cl, A, h1, h2⟩ := hA _ M
  exact X.baloadBooleans C.1 A.1 (State.isArrayOf_alike C.2.1.alike A.2.1) A.2.2 h1 h2 (g := mkF _ pc ls (.int j :: .ref a :: rest)) rfl rfl (hb C.2.2.1 hd) t hr
theorem go_aaload {a : Addr} {j : Int32} {v : Value} {ty : FieldType} {rest : List Value} (q : Nat) (hp : pc + 1 = q) (hd : decode B.2.1 pc = .ok (.aaload, 1)) (hst : st = .int j :: .ref a :: rest) (hty : ty.isReference = true) (hA : ∀ h, Mo Z a0 h0 ds h → El Z h a ty j v) (H : Go B Z a0 h0 Q k n ds q ls (v :: rest)) : Go B Z a0 h0 Q k n ds pc ls st := by
  subst hp hst
  refine H.step fun C X M t hr => ?_
  obtain ⟨cl, A, h1, h2⟩ := hA _ M
  exact X.aaload C.1 A.1 (State.isArrayOf_alike C.2.1.alike A.2.1) hty A.2.2 h1 h2 (g := mkF _ pc ls (.int j :: .ref a :: rest)) rfl rfl (hb C.2.2.1 hd) t hr
theorem Holds.set {h h' : Heap} {a : Addr} {ty : FieldType} {vs : List Value} {c : Cell} {j : Int32} {v : Value} (A : Arr Z h a c ty) (e : c.slots = vs.toArray) (O : ∀ C, ty = .object C → Ovr Z c.cls C) (W : Wr h h' a j.toNatClampNeg v) : Holds Z a0 h' a (.inr (ty, vs.set j.toNatClampNeg v)) :=
  ⟨_, A.same W, by simp [Cell.setSlot, e], O⟩
theorem go_iastore {a : Addr} {j : Int32} {x : Int32} {vs rest : List Value} (i q : Nat) (hp : pc + 1 = q) (hd : decode B.2.1 pc = .ok (.iastore, 1)) (hst : st = .int x :: .int j :: .ref a :: rest) (hi : ds[i]? = some (ar a .int vs)) (hj : ¬ j < 0) (hl : j.toNatClampNeg < vs.length) (H : Go B Z a0 h0 Q k n (ds.set i (ar a .int (vs.set j.toNatClampNeg (.int x)))) q ls rest) : Go B Z a0 h0 Q k n ds pc ls st := by
  subst hp hst
  intro p l e s m args below meth c T locs hs as Cc X N M R
  obtain ⟨cl, A, ee, O⟩ := (M.at hi).arr
  obtain ⟨T', h', X', e', W', st'⟩ := stI X Cc.1 Cc.2.1 rfl A (inb ee hj (List.getElem?_eq_getElem hl)).1 (g := mkF m pc ls (.int x :: .int j :: .ref a :: rest)) rfl rfl (hb Cc.2.2.1 hd)
  refine (H p l e s m args below meth c T' _ hs as Cc X' (Fr.snoc X' N (M.new hi)) ?_ (by rw [e']; exact R.wr hi W')).back st'
  rw [e']; exact M.wr hi W' (Holds.set A ee O W')
theorem go_lastore {a : Addr} {j : Int32} {x : Int64} {vs rest : List Value} (i q : Nat) (hp : pc + 1 = q) (hd : decode B.2.1 pc = .ok (.lastore, 1)) (hst : st = .long x :: .int j :: .ref a :: rest) (hi : ds[i]? = some (ar a .long vs)) (hj : ¬ j < 0) (hl : j.toNatClampNeg < vs.length) (H : Go B Z a0 h0 Q k n (ds.set i (ar a .long (vs.set j.toNatClampNeg (.long x)))) q ls rest) : Go B Z a0 h0 Q k n ds pc ls st := by
  subst hp hst
  intro p l e s m args below meth c T locs hs as Cc X N M R
  obtain ⟨cl, A, ee, O⟩ := (M.at hi).arr
  obtain ⟨T', h', X', e', W', st'⟩ := stJ X Cc.1 Cc.2.1 rfl A (inb ee hj (List.getElem?_eq_getElem hl)).1 (g := mkF m pc ls (.long x :: .int j :: .ref a :: rest)) rfl rfl (hb Cc.2.2.1 hd)
  refine (H p l e s m args below meth c T' _ hs as Cc X' (Fr.snoc X' N (M.new hi)) ?_ (by rw [e']; exact R.wr hi W')).back st'
  rw [e']; exact M.wr hi W' (Holds.set A ee O W')
theorem go_castore {a : Addr} {j : Int32} {x : Int32} {vs rest : List Value} (i q : Nat) (hp : pc + 1 = q) (hd : decode B.2.1 pc = .ok (.castore, 1)) (hst : st = .int x :: .int j :: .ref a :: rest) (hi : ds[i]? = some (ar a .char vs)) (hj : ¬ j < 0) (hl : j.toNatClampNeg < vs.length) (H : Go B Z a0 h0 Q k n (ds.set i (ar a .char (vs.set j.toNatClampNeg (.int (nar .char x))))) q ls rest) : Go B Z a0 h0 Q k n ds pc ls st := by
  subst hp hst
  intro p l e s m args below meth c T locs hs as Cc X N M R
  obtain ⟨cl, A, ee, O⟩ := (M.at hi).arr
  obtain ⟨T', h', X', e', W', st'⟩ := stC X Cc.1 Cc.2.1 rfl A (inb ee hj (List.getElem?_eq_getElem hl)).1 (g := mkF m pc ls (.int x :: .int j :: .ref a :: rest)) rfl rfl (hb Cc.2.2.1 hd)
  refine (H p l e s m args below meth c T' _ hs as Cc X' (Fr.snoc X' N (M.new hi)) ?_ (by rw [e']; exact R.wr hi W')).back st'
  rw [e']; exact M.wr hi W' (Holds.set A ee O W')
theorem go_sastore {a : Addr} {j : Int32} {x : Int32} {vs rest : List Value} (i q : Nat) (hp : pc + 1 = q) (hd : decode B.2.1 pc = .ok (.sastore, 1)) (hst : st = .int x :: .int j :: .ref a :: rest) (hi : ds[i]? = some (ar a .short vs)) (hj : ¬ j < 0) (hl : j.toNatClampNeg < vs.length) (H : Go B Z a0 h0 Q k n (ds.set i (ar a .short (vs.set j.toNatClampNeg (.int (nar .short x))))) q ls rest) : Go B Z a0 h0 Q k n ds pc ls st := by
  subst hp hst
  intro p l e s m args below meth c T locs hs as Cc X N M R
  obtain ⟨cl, A, ee, O⟩ := (M.at hi).arr
  obtain ⟨T', h', X', e', W', st'⟩ := stS X Cc.1 Cc.2.1 rfl A (inb ee hj (List.getElem?_eq_getElem hl)).1 (g := mkF m pc ls (.int x :: .int j :: .ref a :: rest)) rfl rfl (hb Cc.2.2.1 hd)
  refine (H p l e s m args below meth c T' _ hs as Cc X' (Fr.snoc X' N (M.new hi)) ?_ (by rw [e']; exact R.wr hi W')).back st'
  rw [e']; exact M.wr hi W' (Holds.set A ee O W')
theorem go_bastore {a : Addr} {j : Int32} {x : Int32} {vs rest : List Value} (i q : Nat) (hp : pc + 1 = q) (hd : decode B.2.1 pc = .ok (.bastore, 1)) (hst : st = .int x :: .int j :: .ref a :: rest) (hi : ds[i]? = some (ar a .byte vs)) (hj : ¬ j < 0) (hl : j.toNatClampNeg < vs.length) (H : Go B Z a0 h0 Q k n (ds.set i (ar a .byte (vs.set j.toNatClampNeg (.int (nar .byte x))))) q ls rest) : Go B Z a0 h0 Q k n ds pc ls st := by
  subst hp hst
  intro p l e s m args below meth c T locs hs as Cc X N M R
  obtain ⟨cl, A, ee, O⟩ := (M.at hi).arr
  obtain ⟨T', h', X', e', W', st'⟩ := stB X Cc.1 Cc.2.1 rfl A (inb ee hj (List.getElem?_eq_getElem hl)).1 (g := mkF m pc ls (.int x :: .int j :: .ref a :: rest)) rfl rfl (hb Cc.2.2.1 hd)
  refine (H p l e s m args below meth c T' _ hs as Cc X' (Fr.snoc X' N (M.new hi)) ?_ (by rw [e']; exact R.wr hi W')).back st'
  rw [e']; exact M.wr hi W' (Holds.set A ee O W')
theorem go_zastore {a : Addr} {j : Int32} {x : Int32} {vs rest : List Value} (i q : Nat) (hp : pc + 1 = q) (hd : decode B.2.1 pc = .ok (.bastore, 1)) (hst : st = .int x :: .int j :: .ref a :: rest) (hi : ds[i]? = some (ar a .boolean vs)) (hj : ¬ j < 0) (hl : j.toNatClampNeg < vs.length) (H : Go B Z a0 h0 Q k n (ds.set i (ar a .boolean (vs.set j.toNatClampNeg (.int (nar .boolean x))))) q ls rest) : Go B Z a0 h0 Q k n ds pc ls st := by
  subst hp hst
  intro p l e s m args below meth c T locs hs as Cc X N M R
  obtain ⟨cl, A, ee, O⟩ := (M.at hi).arr
  obtain ⟨T', h', X', e', W', st'⟩ := stZ X Cc.1 Cc.2.1 rfl A (inb ee hj (List.getElem?_eq_getElem hl)).1 (g := mkF m pc ls (.int x :: .int j :: .ref a :: rest)) rfl rfl (hb Cc.2.2.1 hd)
  refine (H p l e s m args below meth c T' _ hs as Cc X' (Fr.snoc X' N (M.new hi)) ?_ (by rw [e']; exact R.wr hi W')).back st'
  rw [e']; exact M.wr hi W' (Holds.set A ee O W')
theorem go_aastore {a : Addr} {j : Int32} {v : Value} {ty : FieldType} {vs rest : List Value} (i q : Nat) (hp : pc + 1 = q) (hd : decode B.2.1 pc = .ok (.aastore, 1)) (hst : st = v :: .int j :: .ref a :: rest) (hi : ds[i]? = some (ar a ty vs)) (hty : ty.isReference = true) (hj : ¬ j < 0) (hl : j.toNatClampNeg < vs.length) (hS : ∀ h, Mo Z a0 h0 ds h → Sto Z h a v) (H : Go B Z a0 h0 Q k n (ds.set i (ar a ty (vs.set j.toNatClampNeg v))) q ls rest) : Go B Z a0 h0 Q k n ds pc ls st := by
  subst hp hst
  intro p l e s m args below meth c T locs hs as Cc X N M R
  obtain ⟨cl, A, ee, O⟩ := (M.at hi).arr
  obtain ⟨T', h', X', e', W', st'⟩ := stR X Cc.1 Cc.2.1 rfl A (inb ee hj (List.getElem?_eq_getElem hl)).1 hty (hS _ M) (g := mkF m pc ls (v :: .int j :: .ref a :: rest)) rfl rfl (hb Cc.2.2.1 hd)
  refine (H p l e s m args below meth c T' _ hs as Cc X' (Fr.snoc X' N (M.new hi)) ?_ (by rw [e']; exact R.wr hi W')).back st'
  rw [e']; exact M.wr hi W' (Holds.set A ee O W')
theorem Mo.sto {a y : Addr} {C : String} {vs : List Value} {i : Nat} (hi : ds[i]? = some (ar a (.object C) vs)) (hI : ∀ h, Mo Z a0 h0 ds h → Ins Z h y C true) : ∀ h, Mo Z a0 h0 ds h → Sto Z h a (.ref y) := fun h M => by
  obtain ⟨c, A, -, O⟩ := (M.at hi).arr; exact Sto.of A (O C rfl) (hI h M)
/-! the plain steps -/
theorem go_iloadN {j : Fin 4} {v : Int32} (q : Nat) (hp : pc + 1 = q) (hd : decode B.2.1 pc = .ok (.iload_n j, 1)) (hl : ls[j.val]? = some (.val (.int v))) (H : Go B Z a0 h0 Q k n ds q ls (.int v :: st)) : Go B Z a0 h0 Q k n ds pc ls st := by
  subst hp; exact H.step fun C X _ t hr => XS.iloadN X.here C.1 rfl (hb C.2.2.1 hd) hl hr
theorem go_iload {j : Nat} {v : Int32} (q : Nat) (hp : pc + 2 = q) (hd : decode B.2.1 pc = .ok (.iload j, 2)) (hl : ls[j]? = some (.val (.int v))) (H : Go B Z a0 h0 Q k n ds q ls (.int v :: st)) : Go B Z a0 h0 Q k n ds pc ls st := by
  subst hp; exact H.step fun C X _ t hr => XS.iload X.here C.1 rfl (hb C.2.2.1 hd) hl hr
theorem go_istoreN {j : Fin 4} {x : Int32} {rest : List Value} (l' : Array Slot) (q : Nat) (hp : pc + 1 = q) (hd : decode B.2.1 pc = .ok (.istore_n j, 1)) (hst : st = .int x :: rest) (hl : storeLocals ls j.val (.int x) = some l') (H : Go B Z a0 h0 Q k n ds q l' (rest)) : Go B Z a0 h0 Q k n ds pc ls st := by
  subst hp hst; exact H.step fun C X _ t hr => XS.istoreN X.here C.1 rfl (hb C.2.2.1 hd) rfl hl hr
theorem go_istore {j : Nat} {x : Int32} {rest : List Value} (l' : Array Slot) (q : Nat) (hp : pc + 2 = q) (hd : decode B.2.1 pc = .ok (.istore j, 2)) (hst : st = .int x :: rest) (hl : storeLocals ls j (.int x) = some l') (H : Go B Z a0 h0 Q k n ds q l' (rest)) : Go B Z a0 h0 Q k n ds pc ls st := by
  subst hp hst; exact H.step fun C X _ t hr => XS.istore X.here C.1 rfl (hb C.2.2.1 hd) rfl hl hr
theorem go_lloadN {j : Fin 4} {v : Int64} (q : Nat) (hp : pc + 1 = q) (hd : decode B.2.1 pc = .ok (.lload_n j, 1)) (hl : ls[j.val]? = some (.val (.long v))) (H : Go B Z a0 h0 Q k n ds q ls (.long v :: st)) : Go B Z a0 h0 Q k n ds pc ls st := by
  subst hp; exact H.step fun C X _ t hr => XS.lloadN X.here C.1 rfl (hb C.2.2.1 hd) hl hr
theorem go_lload {j : Nat} {v : Int64} (q : Nat) (hp : pc + 2 = q) (hd : decode B.2.1 pc = .ok (.lload j, 2)) (hl : ls[j]? = some (.val (.long v))) (H : Go B Z a0 h0 Q k n ds q ls (.long v :: st)) : Go B Z a0 h0 Q k n ds pc ls st := by
  subst hp; exact H.step fun C X _ t hr => XS.lload X.here C.1 rfl (hb C.2.2.1 hd) hl hr
theorem go_lstoreN {j : Fin 4} {x : Int64} {rest : List Value} (l' : Array Slot) (q : Nat) (hp : pc + 1 = q) (hd : decode B.2.1 pc = .ok (.lstore_n j, 1)) (hst : st = .long x :: rest) (hl : storeLocals ls j.val (.long x) = some l') (H : Go B Z a0 h0 Q k n ds q l' (rest)) : Go B Z a0 h0 Q k n ds pc ls st := by
  subst hp hst; exact H.step fun C X _ t hr => XS.lstoreN X.here C.1 rfl (hb C.2.2.1 hd) rfl hl hr
theorem go_lstore {j : Nat} {x : Int64} {rest : List Value} (l' : Array Slot) (q : Nat) (hp : pc + 2 = q) (hd : decode B.2.1 pc = .ok (.lstore j, 2)) (hst : st = .long x :: rest) (hl : storeLocals ls j (.long x) = some l') (H : Go B Z a0 h0 Q k n ds q l' (rest)) : Go B Z a0 h0 Q k n ds pc ls st := by
  subst hp hst; exact H.step fun C X _ t hr => XS.lstore X.here C.1 rfl (hb C.2.2.1 hd) rfl hl hr
theorem go_aloadN {j : Fin 4} {v : Value} (q : Nat) (hp : pc + 1 = q) (hd : decode B.2.1 pc = .ok (.aload_n j, 1)) (hl : ls[j.val]? = some (.val v)) (hv : v.isRef = true) (H : Go B Z a0 h0 Q k n ds q ls (v :: st)) : Go B Z a0 h0 Q k n ds pc ls st := by
  subst hp; exact H.step fun C X _ t hr => XS.aloadN X.here C.1 rfl (hb C.2.2.1 hd) hl hv hr
theorem go_aload {j : Nat} {v : Value} (q : Nat) (hp : pc + 2 = q) (hd : decode B.2.1 pc = .ok (.aload j, 2)) (hl : ls[j]? = some (.val v)) (hv : v.isRef = true) (H : Go B Z a0 h0 Q k n ds q ls (v :: st)) : Go B Z a0 h0 Q k n ds pc ls st := by
  subst hp; exact H.step fun C X _ t hr => XS.aload X.here C.1 rfl (hb C.2.2.1 hd) hl hv hr
theorem go_astoreN {j : Fin 4} {x : Value} {rest : List Value} (l' : Array Slot) (q : Nat) (hp : pc + 1 = q) (hd : decode B.2.1 pc = .ok (.astore_n j, 1)) (hst : st = x :: rest) (hv : x.isRef = true) (hl : storeLocals ls j.val x = some l') (H : Go B Z a0 h0 Q k n ds q l' (rest)) : Go B Z a0 h0 Q k n ds pc ls st := by
  subst hp hst; exact H.step fun C X _ t hr => XS.astoreN X.here C.1 rfl (hb C.2.2.1 hd) rfl hv hl hr
theorem go_astore {j : Nat} {x : Value} {rest : List Value} (l' : Array Slot) (q : Nat) (hp : pc + 2 = q) (hd : decode B.2.1 pc = .ok (.astore j, 2)) (hst : st = x :: rest) (hv : x.isRef = true) (hl : storeLocals ls j x = some l') (H : Go B Z a0 h0 Q k n ds q l' (rest)) : Go B Z a0 h0 Q k n ds pc ls st := by
  subst hp hst; exact H.step fun C X _ t hr => XS.astore X.here C.1 rfl (hb C.2.2.1 hd) rfl hv hl hr
theorem go_iconst {i : Int} (v : Int32) (q : Nat) (hp : pc + 1 = q) (hd : decode B.2.1 pc = .ok (.iconst i, 1)) (hv : Int32.ofInt i = v) (H : Go B Z a0 h0 Q k n ds q ls (.int v :: st)) : Go B Z a0 h0 Q k n ds pc ls st := by
  subst hp hv; exact H.step fun C X _ t hr => XS.iconst X.here C.1 rfl (hb C.2.2.1 hd) hr
theorem go_bipush {i : Int} (v : Int32) (q : Nat) (hp : pc + 2 = q) (hd : decode B.2.1 pc = .ok (.bipush i, 2)) (hv : (Int8.ofInt i).toInt32 = v) (H : Go B Z a0 h0 Q k n ds q ls (.int v :: st)) : Go B Z a0 h0 Q k n ds pc ls st := by
  subst hp hv; exact H.step fun C X _ t hr => XS.bipush X.here C.1 rfl (hb C.2.2.1 hd) hr
theorem go_sipush {i : Int} (v : Int32) (q : Nat) (hp : pc + 3 = q) (hd : decode B.2.1 pc = .ok (.sipush i, 3)) (hv : (Int16.ofInt i).toInt32 = v) (H : Go B Z a0 h0 Q k n ds q ls (.int v :: st)) : Go B Z a0 h0 Q k n ds pc ls st := by
  subst hp hv; exact H.step fun C X _ t hr => XS.sipush X.here C.1 rfl (hb C.2.2.1 hd) hr
theorem go_lconst {i : Fin 2} (v : Int64) (q : Nat) (hp : pc + 1 = q) (hd : decode B.2.1 pc = .ok (.lconst i, 1)) (hv : Int64.ofNat i.val = v) (H : Go B Z a0 h0 Q k n ds q ls (.long v :: st)) : Go B Z a0 h0 Q k n ds pc ls st := by
  subst hp hv; exact H.step fun C X _ t hr => XS.lconst X.here C.1 rfl (hb C.2.2.1 hd) hr
theorem go_aconstNull  (q : Nat) (hp : pc + 1 = q) (hd : decode B.2.1 pc = .ok (.aconst_null, 1)) (H : Go B Z a0 h0 Q k n ds q ls (.null :: st)) : Go B Z a0 h0 Q k n ds pc ls st := by
  subst hp; exact H.step fun C X _ t hr => XS.aconstNull X.here C.1 rfl (hb C.2.2.1 hd)  hr
theorem go_iadd {x y : Int32} {rest : List Value} (q : Nat) (hp : pc + 1 = q) (hd : decode B.2.1 pc = .ok (.iadd, 1)) (hst : st = .int y :: .int x :: rest) (H : Go B Z a0 h0 Q k n ds q ls (.int (x + y) :: rest)) : Go B Z a0 h0 Q k n ds pc ls st := by
  subst hp hst; exact H.step fun C X _ t hr => XS.iadd X.here C.1 rfl (hb C.2.2.1 hd) rfl hr
theorem go_isub {x y : Int32} {rest : List Value} (q : Nat) (hp : pc + 1 = q) (hd : decode B.2.1 pc = .ok (.isub, 1)) (hst : st = .int y :: .int x :: rest) (H : Go B Z a0 h0 Q k n ds q ls (.int (x - y) :: rest)) : Go B Z a0 h0 Q k n ds pc ls st := by
  subst hp hst; exact H.step fun C X _ t hr => XS.isub X.here C.1 rfl (hb C.2.2.1 hd) rfl hr
theorem go_imul {x y : Int32} {rest : List Value} (q : Nat) (hp : pc + 1 = q) (hd : decode B.2.1 pc = .ok (.imul, 1)) (hst : st = .int y :: .int x :: rest) (H : Go B Z a0 h0 Q k n ds q ls (.int (x * y) :: rest)) : Go B Z a0 h0 Q k n ds pc ls st := by
  subst hp hst; exact H.step fun C X _ t hr => XS.imul X.here C.1 rfl (hb C.2.2.1 hd) rfl hr
theorem go_iand {x y : Int32} {rest : List Value} (q : Nat) (hp : pc + 1 = q) (hd : decode B.2.1 pc = .ok (.iand, 1)) (hst : st = .int y :: .int x :: rest) (H : Go B Z a0 h0 Q k n ds q ls (.int (x &&& y) :: rest)) : Go B Z a0 h0 Q k n ds pc ls st := by
  subst hp hst; exact H.step fun C X _ t hr => XS.iand X.here C.1 rfl (hb C.2.2.1 hd) rfl hr
theorem go_ior {x y : Int32} {rest : List Value} (q : Nat) (hp : pc + 1 = q) (hd : decode B.2.1 pc = .ok (.ior, 1)) (hst : st = .int y :: .int x :: rest) (H : Go B Z a0 h0 Q k n ds q ls (.int (x ||| y) :: rest)) : Go B Z a0 h0 Q k n ds pc ls st := by
  subst hp hst; exact H.step fun C X _ t hr => XS.ior X.here C.1 rfl (hb C.2.2.1 hd) rfl hr
theorem go_ixor {x y : Int32} {rest : List Value} (q : Nat) (hp : pc + 1 = q) (hd : decode B.2.1 pc = .ok (.ixor, 1)) (hst : st = .int y :: .int x :: rest) (H : Go B Z a0 h0 Q k n ds q ls (.int (x ^^^ y) :: rest)) : Go B Z a0 h0 Q k n ds pc ls st := by
  subst hp hst; exact H.step fun C X _ t hr => XS.ixor X.here C.1 rfl (hb C.2.2.1 hd) rfl hr
theorem go_ishl {x y : Int32} {rest : List Value} (q : Nat) (hp : pc + 1 = q) (hd : decode B.2.1 pc = .ok (.ishl, 1)) (hst : st = .int y :: .int x :: rest) (H : Go B Z a0 h0 Q k n ds q ls (.int (x <<< (y &&& 31)) :: rest)) : Go B Z a0 h0 Q k n ds pc ls st := by
  subst hp hst; exact H.step fun C X _ t hr => XS.ishl X.here C.1 rfl (hb C.2.2.1 hd) rfl hr
theorem go_ishr {x y : Int32} {rest : List Value} (q : Nat) (hp : pc + 1 = q) (hd : decode B.2.1 pc = .ok (.ishr, 1)) (hst : st = .int y :: .int x :: rest) (H : Go B Z a0 h0 Q k n ds q ls (.int (x >>> (y &&& 31)) :: rest)) : Go B Z a0 h0 Q k n ds pc ls st := by
  subst hp hst; exact H.step fun C X _ t hr => XS.ishr X.here C.1 rfl (hb C.2.2.1 hd) rfl hr
theorem go_iushr {x y : Int32} {rest : List Value} (q : Nat) (hp : pc + 1 = q) (hd : decode B.2.1 pc = .ok (.iushr, 1)) (hst : st = .int y :: .int x :: rest) (H : Go B Z a0 h0 Q k n ds q ls (.int ((x.toUInt32 >>> (y &&& 31).toUInt32).toInt32) :: rest)) : Go B Z a0 h0 Q k n ds pc ls st := by
  subst hp hst; exact H.step fun C X _ t hr => XS.iushr X.here C.1 rfl (hb C.2.2.1 hd) rfl hr
theorem go_ladd {x y : Int64} {rest : List Value} (q : Nat) (hp : pc + 1 = q) (hd : decode B.2.1 pc = .ok (.ladd, 1)) (hst : st = .long y :: .long x :: rest) (H : Go B Z a0 h0 Q k n ds q ls (.long (x + y) :: rest)) : Go B Z a0 h0 Q k n ds pc ls st := by
  subst hp hst; exact H.step fun C X _ t hr => XS.ladd X.here C.1 rfl (hb C.2.2.1 hd) rfl hr
theorem go_lsub {x y : Int64} {rest : List Value} (q : Nat) (hp : pc + 1 = q) (hd : decode B.2.1 pc = .ok (.lsub, 1)) (hst : st = .long y :: .long x :: rest) (H : Go B Z a0 h0 Q k n ds q ls (.long (x - y) :: rest)) : Go B Z a0 h0 Q k n ds pc ls st := by
  subst hp hst; exact H.step fun C X _ t hr => XS.lsub X.here C.1 rfl (hb C.2.2.1 hd) rfl hr
theorem go_lmul {x y : Int64} {rest : List Value} (q : Nat) (hp : pc + 1 = q) (hd : decode B.2.1 pc = .ok (.lmul, 1)) (hst : st = .long y :: .long x :: rest) (H : Go B Z a0 h0 Q k n ds q ls (.long (x * y) :: rest)) : Go B Z a0 h0 Q k n ds pc ls st := by
  subst hp hst; exact H.step fun C X _ t hr => XS.lmul X.here C.1 rfl (hb C.2.2.1 hd) rfl hr
theorem go_land {x y : Int64} {rest : List Value} (q : Nat) (hp : pc + 1 = q) (hd : decode B.2.1 pc = .ok (.land, 1)) (hst : st = .long y :: .long x :: rest) (H : Go B Z a0 h0 Q k n ds q ls (.long (x &&& y) :: rest)) : Go B Z a0 h0 Q k n ds pc ls st := by
  subst hp hst; exact H.step fun C X _ t hr => XS.land X.here C.1 rfl (hb C.2.2.1 hd) rfl hr
theorem go_lor {x y : Int64} {rest : List Value} (q : Nat) (hp : pc + 1 = q) (hd : decode B.2.1 pc = .ok (.lor, 1)) (hst : st = .long y :: .long x :: rest) (H : Go B Z a0 h0 Q k n ds q ls (.long (x ||| y) :: rest)) : Go B Z a0 h0 Q k n ds pc ls st := by
  subst hp hst; exact H.step fun C X _ t hr => XS.lor X.here C.1 rfl (hb C.2.2.1 hd) rfl hr
theorem go_lxor {x y : Int64} {rest : List Value} (q : Nat) (hp : pc + 1 = q) (hd : decode B.2.1 pc = .ok (.lxor, 1)) (hst : st = .long y :: .long x :: rest) (H : Go B Z a0 h0 Q k n ds q ls (.long (x ^^^ y) :: rest)) : Go B Z a0 h0 Q k n ds pc ls st := by
  subst hp hst; exact H.step fun C X _ t hr => XS.lxor X.here C.1 rfl (hb C.2.2.1 hd) rfl hr
theorem go_lshl {x : Int64} {y : Int32} {rest : List Value} (q : Nat) (hp : pc + 1 = q) (hd : decode B.2.1 pc = .ok (.lshl, 1)) (hst : st = .int y :: .long x :: rest) (H : Go B Z a0 h0 Q k n ds q ls (.long (x <<< (y &&& 0x3f).toInt64) :: rest)) : Go B Z a0 h0 Q k n ds pc ls st := by
  subst hp hst; exact H.step fun C X _ t hr => XS.lshl X.here C.1 rfl (hb C.2.2.1 hd) rfl hr
theorem go_lshr {x : Int64} {y : Int32} {rest : List Value} (q : Nat) (hp : pc + 1 = q) (hd : decode B.2.1 pc = .ok (.lshr, 1)) (hst : st = .int y :: .long x :: rest) (H : Go B Z a0 h0 Q k n ds q ls (.long (x >>> (y &&& 0x3f).toInt64) :: rest)) : Go B Z a0 h0 Q k n ds pc ls st := by
  subst hp hst; exact H.step fun C X _ t hr => XS.lshr X.here C.1 rfl (hb C.2.2.1 hd) rfl hr
theorem go_lushr {x : Int64} {y : Int32} {rest : List Value} (q : Nat) (hp : pc + 1 = q) (hd : decode B.2.1 pc = .ok (.lushr, 1)) (hst : st = .int y :: .long x :: rest) (H : Go B Z a0 h0 Q k n ds q ls (.long ((x.toUInt64 >>> (y &&& 0x3f).toInt64.toUInt64).toInt64) :: rest)) : Go B Z a0 h0 Q k n ds pc ls st := by
  subst hp hst; exact H.step fun C X _ t hr => XS.lushr X.here C.1 rfl (hb C.2.2.1 hd) rfl hr
theorem go_idiv {x y : Int32} {rest : List Value} (q : Nat) (hp : pc + 1 = q) (hd : decode B.2.1 pc = .ok (.idiv, 1)) (hst : st = .int y :: .int x :: rest) (hy : y ≠ 0) (H : Go B Z a0 h0 Q k n ds q ls (.int (x / y) :: rest)) : Go B Z a0 h0 Q k n ds pc ls st := by
  subst hp hst; exact H.step fun C X _ t hr => XS.idiv X.here C.1 rfl (hb C.2.2.1 hd) rfl hy hr
theorem go_ldiv {x y : Int64} {rest : List Value} (q : Nat) (hp : pc + 1 = q) (hd : decode B.2.1 pc = .ok (.ldiv, 1)) (hst : st = .long y :: .long x :: rest) (hy : y ≠ 0) (H : Go B Z a0 h0 Q k n ds q ls (.long (x / y) :: rest)) : Go B Z a0 h0 Q k n ds pc ls st := by
  subst hp hst; exact H.step fun C X _ t hr => XS.ldiv X.here C.1 rfl (hb C.2.2.1 hd) rfl hy hr
theorem go_irem {x y : Int32} {rest : List Value} (q : Nat) (hp : pc + 1 = q) (hd : decode B.2.1 pc = .ok (.irem, 1)) (hst : st = .int y :: .int x :: rest) (hy : y ≠ 0) (H : Go B Z a0 h0 Q k n ds q ls (.int (x % y) :: rest)) : Go B Z a0 h0 Q k n ds pc ls st := by
  subst hp hst; exact H.step fun C X _ t hr => iremM X C.1 rfl (hb C.2.2.1 hd) rfl hy hr
theorem go_lrem {x y : Int64} {rest : List Value} (q : Nat) (hp : pc + 1 = q) (hd : decode B.2.1 pc = .ok (.lrem, 1)) (hst : st = .long y :: .long x :: rest) (hy : y ≠ 0) (H : Go B Z a0 h0 Q k n ds q ls (.long (x % y) :: rest)) : Go B Z a0 h0 Q k n ds pc ls st := by
  subst hp hst; exact H.step fun C X _ t hr => XS.lrem X.here C.1 rfl (hb C.2.2.1 hd) rfl hy (by rw [lrem_mod]; exact hr)
theorem go_ineg {x : Int32} {rest : List Value} (q : Nat) (hp : pc + 1 = q) (hd : decode B.2.1 pc = .ok (.ineg, 1)) (hst : st = .int x :: rest) (H : Go B Z a0 h0 Q k n ds q ls (.int (-x) :: rest)) : Go B Z a0 h0 Q k n ds pc ls st := by
  subst hp hst; exact H.step fun C X _ t hr => XS.ineg X.here C.1 rfl (hb C.2.2.1 hd) rfl hr
theorem go_lneg {x : Int64} {rest : List Value} (q : Nat) (hp : pc + 1 = q) (hd : decode B.2.1 pc = .ok (.lneg, 1)) (hst : st = .long x :: rest) (H : Go B Z a0 h0 Q k n ds q ls (.long (-x) :: rest)) : Go B Z a0 h0 Q k n ds pc ls st := by
  subst hp hst; exact H.step fun C X _ t hr => XS.lneg X.here C.1 rfl (hb C.2.2.1 hd) rfl hr
theorem go_i2l {x : Int32} {rest : List Value} (q : Nat) (hp : pc + 1 = q) (hd : decode B.2.1 pc = .ok (.i2l, 1)) (hst : st = .int x :: rest) (H : Go B Z a0 h0 Q k n ds q ls (.long x.toInt64 :: rest)) : Go B Z a0 h0 Q k n ds pc ls st := by
  subst hp hst; exact H.step fun C X _ t hr => XS.i2l X.here C.1 rfl (hb C.2.2.1 hd) rfl hr
theorem go_l2i {x : Int64} {rest : List Value} (q : Nat) (hp : pc + 1 = q) (hd : decode B.2.1 pc = .ok (.l2i, 1)) (hst : st = .long x :: rest) (H : Go B Z a0 h0 Q k n ds q ls (.int x.toInt32 :: rest)) : Go B Z a0 h0 Q k n ds pc ls st := by
  subst hp hst; exact H.step fun C X _ t hr => XS.l2i X.here C.1 rfl (hb C.2.2.1 hd) rfl hr
theorem go_i2b {x : Int32} {rest : List Value} (q : Nat) (hp : pc + 1 = q) (hd : decode B.2.1 pc = .ok (.i2b, 1)) (hst : st = .int x :: rest) (H : Go B Z a0 h0 Q k n ds q ls (.int x.toInt8.toInt32 :: rest)) : Go B Z a0 h0 Q k n ds pc ls st := by
  subst hp hst; exact H.step fun C X _ t hr => XS.i2b X.here C.1 rfl (hb C.2.2.1 hd) rfl hr
theorem go_i2c {x : Int32} {rest : List Value} (q : Nat) (hp : pc + 1 = q) (hd : decode B.2.1 pc = .ok (.i2c, 1)) (hst : st = .int x :: rest) (H : Go B Z a0 h0 Q k n ds q ls (.int x.toUInt32.toUInt16.toUInt32.toInt32 :: rest)) : Go B Z a0 h0 Q k n ds pc ls st := by
  subst hp hst; exact H.step fun C X _ t hr => XS.i2c X.here C.1 rfl (hb C.2.2.1 hd) rfl hr
theorem go_i2s {x : Int32} {rest : List Value} (q : Nat) (hp : pc + 1 = q) (hd : decode B.2.1 pc = .ok (.i2s, 1)) (hst : st = .int x :: rest) (H : Go B Z a0 h0 Q k n ds q ls (.int x.toInt16.toInt32 :: rest)) : Go B Z a0 h0 Q k n ds pc ls st := by
  subst hp hst; exact H.step fun C X _ t hr => XS.i2s X.here C.1 rfl (hb C.2.2.1 hd) rfl hr
theorem go_lcmp {x y : Int64} {rest : List Value} (q : Nat) (hp : pc + 1 = q) (hd : decode B.2.1 pc = .ok (.lcmp, 1)) (hst : st = .long y :: .long x :: rest) (H : Go B Z a0 h0 Q k n ds q ls (.int (lcmpW x y) :: rest)) : Go B Z a0 h0 Q k n ds pc ls st := by
  subst hp hst; exact H.step fun C X _ t hr => XS.lcmp X.here C.1 rfl (hb C.2.2.1 hd) rfl hr
theorem go_iinc {j : Nat} {cst : Int} {x : Int32} (l' : Array Slot) (q : Nat) (hp : pc + 3 = q) (hd : decode B.2.1 pc = .ok (.iinc j cst, 3)) (hl : ls[j]? = some (.val (.int x))) (hl' : storeLocals ls j (.int (x + Int32.ofInt cst)) = some l') (H : Go B Z a0 h0 Q k n ds q l' (st)) : Go B Z a0 h0 Q k n ds pc ls st := by
  subst hp; exact H.step fun C X _ t hr => XS.iinc X.here C.1 rfl (hb C.2.2.1 hd) hl hl' hr
theorem go_dup {x : Value} {rest : List Value} (q : Nat) (hp : pc + 1 = q) (hd : decode B.2.1 pc = .ok (.dup, 1)) (hst : st = x :: rest) (hc : x.category = 1) (H : Go B Z a0 h0 Q k n ds q ls (x :: x :: rest)) : Go B Z a0 h0 Q k n ds pc ls st := by
  subst hp hst; exact H.step fun C X _ t hr => XS.dup X.here C.1 rfl (hb C.2.2.1 hd) rfl hc hr
theorem go_pop {x : Value} {rest : List Value} (q : Nat) (hp : pc + 1 = q) (hd : decode B.2.1 pc = .ok (.pop, 1)) (hst : st = x :: rest) (hc : x.category = 1) (H : Go B Z a0 h0 Q k n ds q ls (rest)) : Go B Z a0 h0 Q k n ds pc ls st := by
  subst hp hst; exact H.step fun C X _ t hr => XS.pop X.here C.1 rfl (hb C.2.2.1 hd) rfl hc hr
theorem go_dupX1 {x y : Value} {rest : List Value} (q : Nat) (hp : pc + 1 = q) (hd : decode B.2.1 pc = .ok (.dup_x1, 1)) (hst : st = x :: y :: rest) (hc : x.category = 1) (hc' : y.category = 1) (H : Go B Z a0 h0 Q k n ds q ls (x :: y :: x :: rest)) : Go B Z a0 h0 Q k n ds pc ls st := by
  subst hp hst; exact H.step fun C X _ t hr => XS.dupX1 X.here C.1 rfl (hb C.2.2.1 hd) rfl hc hc' hr
theorem go_swap {x y : Value} {rest : List Value} (q : Nat) (hp : pc + 1 = q) (hd : decode B.2.1 pc = .ok (.swap, 1)) (hst : st = x :: y :: rest) (hc : x.category = 1) (hc' : y.category = 1) (H : Go B Z a0 h0 Q k n ds q ls (y :: x :: rest)) : Go B Z a0 h0 Q k n ds pc ls st := by
  subst hp hst; exact H.step fun C X _ t hr => XS.swap X.here C.1 rfl (hb C.2.2.1 hd) rfl hc hc' hr
theorem go_dup2 {x y : Value} {rest : List Value} (q : Nat) (hp : pc + 1 = q) (hd : decode B.2.1 pc = .ok (.dup2, 1)) (hst : st = x :: y :: rest) (hc : x.category = 1) (hc' : y.category = 1) (H : Go B Z a0 h0 Q k n ds q ls (x :: y :: x :: y :: rest)) : Go B Z a0 h0 Q k n ds pc ls st := by
  subst hp hst; exact H.step fun C X _ t hr => XT.dup2 X.here C.1 rfl (hb C.2.2.1 hd) rfl hc hc' hr
theorem go_dup2L {x : Int64} {rest : List Value} (q : Nat) (hp : pc + 1 = q) (hd : decode B.2.1 pc = .ok (.dup2, 1)) (hst : st = .long x :: rest) (H : Go B Z a0 h0 Q k n ds q ls (.long x :: .long x :: rest)) : Go B Z a0 h0 Q k n ds pc ls st := by
  subst hp hst; exact H.step fun C X _ t hr => XT.dup2L X.here C.1 rfl (hb C.2.2.1 hd) rfl hr
/-! calls: the callee's Met pays -/
theorem go_initObj {a : Addr} {idx : Nat} {rest : List Value} (q : Nat) (hp : pc + 3 = q) (hd : decode B.2.1 pc = .ok (.invokespecial idx, 3)) (hst : st = .ref a :: rest) (w1 : (Jvm.Cond.methodLink B.1.cls idx Lib.objectInit).before a0 Z = true) (w2 : (Jvm.Cond.instanceMethod Lib.objectInit).before a0 Z = true) (w3 : (Jvm.Cond.code Lib.objectInit ⟨#[0xb1]⟩ 1 none).before a0 Z = true)
    (hsz : ls.size = B.2.2.1) (hf : 1 ≤ B.2.2.2.2.frames) (hl : (rest.map fun v => v.category).sum + 12 ≤ B.2.2.2.2.locals) (H : Go B Z a0 h0 Q k n ds q ls rest) : Go B Z a0 h0 Q k n ds pc ls st := by
  subst hp hst
  intro p l e s m args below meth c T locs hs as Cc X N M R
  obtain ⟨T', X', e', st'⟩ := initO X Cc.1 Cc.2.1 Cc.2.2.2.2.1 w1 w2 w3 rfl (g := mkF m pc ls (.ref a :: rest)) rfl (hsz.trans Cc.2.2.2.1.symm) rfl (hb Cc.2.2.1 hd) hf (W := (rest.map fun v => v.category).sum) (by show 2 * 0 + _ ≤ _; omega) hl
  exact (H p l e s m args below meth c T' locs hs as Cc X' N (by rw [e']; exact M) (by rw [e']; exact R)).back st'
variable {y z : MethodName} {bytes : ByteArray} {maxL : Nat} {ret : Option FieldType} {rm : Room} {idx : Nat} {argsL rest : List Value} {ps : List FieldType} {Q' : Option Value → Mem → Prop}
theorem go_callS (q : Nat) (hp : pc + 3 = q) (hd : decode B.2.1 pc = .ok (.invokestatic idx, 3)) (w1 : (Jvm.Cond.methodLink B.1.cls idx y).before a0 Z = true) (w2 : (Jvm.Cond.static y).before a0 Z = true) (w3 : (Jvm.Cond.initialized y.cls).before a0 Z = true) (w4 : (Jvm.Cond.code y bytes maxL ret).before a0 Z = true)
    (hy : y.cls ≠ "java/lang/invoke/MethodHandle" ∧ y.cls ≠ "java/lang/invoke/VarHandle") (hM : Met (y, bytes, maxL, ret, rm) Z a0 h0 argsL.toArray ds Q') (hst : st = argsL.reverse ++ rest) (hpd : parseMethodDescriptor y.desc = some ⟨ps, ret⟩) (hlen : argsL.length = ps.length)
    (hsz : ls.size = B.2.2.1) (W : Nat) (hW : (rest.map fun v => v.category).sum = W) (hf : rm.frames + 1 ≤ B.2.2.2.2.frames) (hl : W + (maxL + 11) + rm.locals ≤ B.2.2.2.2.locals) (hk : k + rm.cells ≤ B.2.2.2.2.cells) (hn : n + rm.slots ≤ B.2.2.2.2.slots)
    (H : ∀ v ds', Q' v ds' → Go B Z a0 h0 Q (k + rm.cells) (n + rm.slots) ds' q ls (v.toList ++ rest)) : Go B Z a0 h0 Q k n ds pc ls st := by
  subst hp hst
  intro p l e s m args below meth c T locs hs as Cc X N M R
  have hZ := Cc.2.1
  obtain ⟨v, _, ⟨T', L', k', n'⟩, -, X', ⟨Lc, hQ, l1, y1, z1⟩, st'⟩ := Jvm.LawKit.callS X Cc.1 (y := y) Cc.2.2.2.2.1 (mvT hZ w1) (mvT hZ w2) (mvT hZ w3) (mvT hZ w4) hy (backOf (W := W) (hM l [] T.heap M) hZ w4 w3 hf hl) (g := mkF m pc ls (argsL.reverse ++ rest)) rfl (hsz.trans Cc.2.2.2.1.symm) (argsL := argsL) (rest := rest) (lenOf hpd hlen) rfl (by show 2 * 0 + _ ≤ _; omega) (hb Cc.2.2.1 hd) (fun _ _ => ⟨rfl, rfl, hk, hn⟩)
  dsimp only [Pt.U, Pt.locs, Pt.cells, Pt.slots] at X' l1 y1 z1 st' hQ
  subst l1 y1 z1
  obtain ⟨N', ds', M', R', hq⟩ := hQ
  exact (H v ds' hq p l e s m args below meth c T' _ hs as Cc X' (Fr.app N N') M' (R.call R')).back st'
theorem go_callI {a : Addr} (q : Nat) (hp : pc + 3 = q) (hd : decode B.2.1 pc = .ok (.invokespecial idx, 3)) (hin : y.name = "<init>") (w1 : (Jvm.Cond.methodLink B.1.cls idx y).before a0 Z = true) (w2 : (Jvm.Cond.instanceMethod y).before a0 Z = true) (w3 : (Jvm.Cond.initialized y.cls).before a0 Z = true) (w4 : (Jvm.Cond.code y bytes maxL none).before a0 Z = true)
    (hy : y.cls ≠ "java/lang/invoke/MethodHandle" ∧ y.cls ≠ "java/lang/invoke/VarHandle") (hM : Met (y, bytes, maxL, none, rm) Z a0 h0 (.ref a :: argsL).toArray ds Q') (hst : st = argsL.reverse ++ .ref a :: rest) (hpd : parseMethodDescriptor y.desc = some ⟨ps, ret⟩) (hlen : argsL.length = ps.length)
    (hsz : ls.size = B.2.2.1) (W : Nat) (hW : (rest.map fun v => v.category).sum = W) (hf : rm.frames + 1 ≤ B.2.2.2.2.frames) (hl : W + (maxL + 11) + rm.locals ≤ B.2.2.2.2.locals) (hk : k + rm.cells ≤ B.2.2.2.2.cells) (hn : n + rm.slots ≤ B.2.2.2.2.slots)
    (H : ∀ v ds', Q' v ds' → Go B Z a0 h0 Q (k + rm.cells) (n + rm.slots) ds' q ls (v.toList ++ rest)) : Go B Z a0 h0 Q k n ds pc ls st := by
  subst hp hst
  intro p l e s m args below meth c T locs hs as Cc X N M R
  have hZ := Cc.2.1
  obtain ⟨v, _, ⟨T', L', k', n'⟩, -, X', ⟨Lc, hQ, l1, y1, z1⟩, st'⟩ := X.specialBack Cc.1 (y := y) hin Cc.2.2.2.2.1 (mvT hZ w1) (mvT hZ w2) (mvT hZ w4) hy (backOf (W := W) (hM l [] T.heap M) hZ w4 w3 hf hl) (g := mkF m pc ls (argsL.reverse ++ .ref a :: rest)) rfl (hsz.trans Cc.2.2.2.1.symm) (Steps.refl _) (a := a) (argsL := argsL) (rest := rest) (lenOf hpd hlen) rfl (by show 2 * 0 + _ ≤ _; omega) (hb Cc.2.2.1 hd) (fun _ _ => ⟨rfl, rfl, hk, hn⟩)
  dsimp only [Pt.U, Pt.locs, Pt.cells, Pt.slots] at X' l1 y1 z1 st' hQ
  subst l1 y1 z1
  obtain ⟨N', ds', M', R', hq⟩ := hQ
  exact (H v ds' hq p l e s m args below meth c T' _ hs as Cc X' (Fr.app N N') M' (R.call R')).back fun t hr => st'.trans hr
theorem go_callVz {a : Addr} {C : String} (q : Nat) (hp : pc + 3 = q) (hd : decode B.2.1 pc = .ok (.invokevirtual idx, 3)) (w1 : (Jvm.Cond.methodLink B.1.cls idx y).before a0 Z = true) (w2 : (Jvm.Cond.declares y).before a0 Z = true) (w3 : (Jvm.Cond.selects C y z).before a0 Z = true) (w4 : (Jvm.Cond.instanceMethod z).before a0 Z = true) (w5 : (Jvm.Cond.initialized z.cls).before a0 Z = true) (w6 : (Jvm.Cond.code z bytes maxL ret).before a0 Z = true)
    (hnf : ∀ s : State, Z.Warmed39 s.vm → NotFace s y) (hy : y.cls ≠ "java/lang/invoke/MethodHandle" ∧ y.cls ≠ "java/lang/invoke/VarHandle") (hE : ∀ h, Mo Z a0 h0 ds h → Exa Z h a C) (hM : Met (z, bytes, maxL, ret, rm) Z a0 h0 (.ref a :: argsL).toArray ds Q') (hst : st = argsL.reverse ++ .ref a :: rest) (hpd : parseMethodDescriptor y.desc = some ⟨ps, ret⟩) (hlen : argsL.length = ps.length)
    (hsz : ls.size = B.2.2.1) (W : Nat) (hW : (rest.map fun v => v.category).sum = W) (hf : rm.frames + 1 ≤ B.2.2.2.2.frames) (hl : W + (maxL + 11) + rm.locals ≤ B.2.2.2.2.locals) (hk : k + rm.cells ≤ B.2.2.2.2.cells) (hn : n + rm.slots ≤ B.2.2.2.2.slots)
    (H : ∀ v ds', Q' v ds' → Go B Z a0 h0 Q (k + rm.cells) (n + rm.slots) ds' q ls (v.toList ++ rest)) : Go B Z a0 h0 Q k n ds pc ls st := by
  subst hp hst
  intro p l e s m args below meth c T locs hs as Cc X N M R
  have hZ := Cc.2.1
  obtain ⟨cq, kq, qa, qb, qc⟩ := isOf hZ rfl (hE _ M)
  obtain ⟨v, _, ⟨T', L', k', n'⟩, -, X', ⟨Lc, hQ, l1, y1, z1⟩, st'⟩ := X.virtualBack Cc.1 (y := y) (z := z) Cc.2.2.2.2.1 (mvT hZ w1) (mvT hZ w2) (hnf _ hZ) (mvT hZ w3) (mvT hZ w4) hy (backOf (W := W) (hM l [] T.heap M) hZ w6 w5 hf hl) qa qc (g := mkF m pc ls (argsL.reverse ++ .ref a :: rest)) rfl (hsz.trans Cc.2.2.2.1.symm) (Steps.refl _) (argsL := argsL) (rest := rest) (lenOf hpd hlen) rfl (by show 2 * 0 + _ ≤ _; omega) (hb Cc.2.2.1 hd) (fun _ _ => ⟨rfl, rfl, hk, hn⟩)
  dsimp only [Pt.U, Pt.locs, Pt.cells, Pt.slots] at X' l1 y1 z1 st' hQ
  subst l1 y1 z1
  obtain ⟨N', ds', M', R', hq⟩ := hQ
  exact (H v ds' hq p l e s m args below meth c T' _ hs as Cc X' (Fr.app N N') M' (R.call R')).back fun t hr => st'.trans hr
theorem go_callV {a : Addr} {C : String} (q : Nat) (hp : pc + 3 = q) (hd : decode B.2.1 pc = .ok (.invokevirtual idx, 3)) (w1 : (Jvm.Cond.methodLink B.1.cls idx y).before a0 Z = true) (w2 : (Jvm.Cond.declares y).before a0 Z = true) (w3 : (Jvm.Cond.selects C y y).before a0 Z = true) (w4 : (Jvm.Cond.instanceMethod y).before a0 Z = true) (w5 : (Jvm.Cond.initialized y.cls).before a0 Z = true) (w6 : (Jvm.Cond.code y bytes maxL ret).before a0 Z = true)
    (hy : y.cls ≠ "java/lang/invoke/MethodHandle" ∧ y.cls ≠ "java/lang/invoke/VarHandle") (hE : ∀ h, Mo Z a0 h0 ds h → Exa Z h a C) (hM : Met (y, bytes, maxL, ret, rm) Z a0 h0 (.ref a :: argsL).toArray ds Q') (hst : st = argsL.reverse ++ .ref a :: rest) (hpd : parseMethodDescriptor y.desc = some ⟨ps, ret⟩) (hlen : argsL.length = ps.length)
    (hsz : ls.size = B.2.2.1) (W : Nat) (hW : (rest.map fun v => v.category).sum = W) (hf : rm.frames + 1 ≤ B.2.2.2.2.frames) (hl : W + (maxL + 11) + rm.locals ≤ B.2.2.2.2.locals) (hk : k + rm.cells ≤ B.2.2.2.2.cells) (hn : n + rm.slots ≤ B.2.2.2.2.slots)
    (H : ∀ v ds', Q' v ds' → Go B Z a0 h0 Q (k + rm.cells) (n + rm.slots) ds' q ls (v.toList ++ rest)) : Go B Z a0 h0 Q k n ds pc ls st :=
  go_callVz q hp hd w1 w2 w3 w4 w5 w6 (fun s hZ => notFace_of_selects (args := #[]) (mvT hZ w3)) hy hE hM hst hpd hlen hsz W hW hf hl hk hn H
theorem go_callVU {a : Addr} {C owner : String} (q : Nat) (hp : pc + 3 = q) (hd : decode B.2.1 pc = .ok (.invokevirtual idx, 3)) (w1 : (Jvm.Cond.methodLink B.1.cls idx y).before a0 Z = true) (w0 : (Jvm.Cond.sameMethod y.cls owner y.name y.desc).before a0 Z = true) (w2 : (Jvm.Cond.declares ⟨owner, y.name, y.desc⟩).before a0 Z = true) (w3 : (Jvm.Cond.selects C y z).before a0 Z = true) (w4 : (Jvm.Cond.instanceMethod z).before a0 Z = true) (w5 : (Jvm.Cond.initialized z.cls).before a0 Z = true) (w6 : (Jvm.Cond.code z bytes maxL ret).before a0 Z = true)
    (hy : owner ≠ "java/lang/invoke/MethodHandle" ∧ owner ≠ "java/lang/invoke/VarHandle") (hE : ∀ h, Mo Z a0 h0 ds h → Exa Z h a C) (hM : Met (z, bytes, maxL, ret, rm) Z a0 h0 (.ref a :: argsL).toArray ds Q') (hst : st = argsL.reverse ++ .ref a :: rest) (hpd : parseMethodDescriptor y.desc = some ⟨ps, ret⟩) (hlen : argsL.length = ps.length)
    (hsz : ls.size = B.2.2.1) (W : Nat) (hW : (rest.map fun v => v.category).sum = W) (hf : rm.frames + 1 ≤ B.2.2.2.2.frames) (hl : W + (maxL + 11) + rm.locals ≤ B.2.2.2.2.locals) (hk : k + rm.cells ≤ B.2.2.2.2.cells) (hn : n + rm.slots ≤ B.2.2.2.2.slots)
    (H : ∀ v ds', Q' v ds' → Go B Z a0 h0 Q (k + rm.cells) (n + rm.slots) ds' q ls (v.toList ++ rest)) : Go B Z a0 h0 Q k n ds pc ls st := by
  subst hp hst
  intro p l e s m args below meth c T locs hs as Cc X N M R
  have hZ := Cc.2.1
  obtain ⟨cq, kq, qa, qb, qc⟩ := isOf hZ rfl (hE _ M)
  obtain ⟨v, _, ⟨T', L', k', n'⟩, -, X', ⟨Lc, hQ, l1, y1, z1⟩, st'⟩ := X.virtualBackUp Cc.1 (x := y) (y := z) Cc.2.2.2.2.1 (mvT hZ w1) (mvT hZ w0) (mvT hZ w2) hy (mvT hZ w3) (mvT hZ w4) (backOf (W := W) (hM l [] T.heap M) hZ w6 w5 hf hl) qa qc (g := mkF m pc ls (argsL.reverse ++ .ref a :: rest)) rfl (hsz.trans Cc.2.2.2.1.symm) (Steps.refl _) (argsL := argsL) (rest := rest) (lenOf hpd hlen) rfl (by show 2 * 0 + _ ≤ _; omega) (hb Cc.2.2.1 hd) (fun _ _ => ⟨rfl, rfl, hk, hn⟩)
  dsimp only [Pt.U, Pt.locs, Pt.cells, Pt.slots] at X' l1 y1 z1 st' hQ
  subst l1 y1 z1
  obtain ⟨N', ds', M', R', hq⟩ := hQ
  exact (H v ds' hq p l e s m args below meth c T' _ hs as Cc X' (Fr.app N N') M' (R.call R')).back fun t hr => st'.trans hr
end Core
end Jvm.OwnW

/- laws to paste: Road.backV (cut by pick.py; bodies as the Statement names them) -/
namespace Jvm.Pilot.@@N@@
namespace StrChars
open Jvm Sem ClassFile Op Lib Jvm.Stand Jvm.Free.XT Jvm.Free.ALB Jvm.Free.JM Jvm.Free
open Jvm.Lib.Cold (StaticIs)
/-- a char array whose places are chars -/
def Ch (a : Addr) (A : Cell) (U : State) : Prop := Arr .char a A U ∧ Typed .char A
theorem Ch.mv {a : Addr} {A : Cell} {U U' : State} (h : Ch a A U) (hal : U.vm.Alike U'.vm) (hh : U'.heap = U.heap) : Ch a A U' := ⟨h.1.mv hal hh, h.2⟩
theorem Ch.keep {a : Addr} {A : Cell} {U U' : State} (h : Ch a A U) (hal : U.vm.Alike U'.vm) (hk : U'.heap[a]? = some A) : Ch a A U' := ⟨h.1.keep hal hk, h.2⟩
/-- what place i of a char[]'s cell holds -/
def cv (A : Cell) (i : Nat) : Int32 := match A.slots[i]? with | some (.int x) => x | _ => 0
theorem Ch.get {a : Addr} {A : Cell} {U : State} (h : Ch a A U) {i : Nat} (hi : i < A.slots.size) : A.slots[i]? = some (.int (cv A i)) := by
  have e := Array.getElem?_eq_getElem hi
  have f := h.2 i _ e
  unfold cv; rw [e]
  generalize A.slots[i] = v at f
  cases v <;> simp [fits] at f ⊢
/-- the byte that i2b leaves of a char -/
def lo8 (x : Int32) : Int32 := x.toInt8.toInt32
theorem fits_lo8 (y : Int32) : fits .byte (.int (lo8 y)) = true := by
  have h1 := y.toInt8.le_toInt
  have h2 := y.toInt8.toInt_lt
  simp only [lo8, fits, Bool.and_eq_true, decide_eq_true_eq, Int32.le_iff_toInt_le, Int8.toInt_toInt32, show (-128 : Int32).toInt = -128 from by decide, show (127 : Int32).toInt = 127 from by decide]
  omega
/-- A' is A but that each place j of lo .. hi - 1 holds f j -/
def Laid (A A' : Cell) (lo hi : Nat) (f : Nat → Value) : Prop := A'.cls = A.cls ∧ A'.vm = A.vm ∧ A'.slots.size = A.slots.size ∧ ∀ i, A'.slots[i]? = if lo ≤ i ∧ i < hi then some (f i) else A.slots[i]?
theorem Laid.zero (A : Cell) (lo : Nat) (f : Nat → Value) : Laid A A lo (lo + 0) f := ⟨rfl, rfl, rfl, fun i => by rw [if_neg (by omega)]⟩
theorem Laid.step {A Ak : Cell} {lo k : Nat} {f : Nat → Value} {v : Value} (h : Laid A Ak lo k f) (hlo : lo ≤ k) (hk : k < Ak.slots.size) (hv : v = f k) : Laid A (Ak.setSlot k v) lo (k + 1) f := by
  refine ⟨h.1, h.2.1, by simpa [Cell.setSlot] using h.2.2.1, fun i => ?_⟩
  by_cases e : k = i
  · subst e; rw [Cell.slots_setSlot_self v hk, if_pos (by omega), hv]
  · rw [Cell.slots_setSlot_ne v e, h.2.2.2 i]
    by_cases q : lo ≤ i ∧ i < k
    · rw [if_pos q, if_pos (by omega)]
    · rw [if_neg q, if_neg (by omega)]
def U16 : String := "java/lang/StringUTF16"
namespace Cmp5
def yN : MethodName := ⟨"java/lang/StringUTF16", "compress", "([CI[BII)I"⟩
abbrev yB : ByteArray := jdk_52_method_21_code
theorem d0 : decode yB 0 = .ok (.iconst 0, 1) := by decide +kernel
theorem d1 : decode yB 1 = .ok (.istore 5, 2) := by decide +kernel
theorem d3 : decode yB 3 = .ok (.iload 5, 2) := by decide +kernel
theorem d5 : decode yB 5 = .ok (.iload 4, 2) := by decide +kernel
theorem d7 : decode yB 7 = .ok (.if_icmp (.ge) 37, 3) := by decide +kernel
theorem d10 : decode yB 10 = .ok (.aload_n 0, 1) := by decide +kernel
theorem d11 : decode yB 11 = .ok (.iload_n 1, 1) := by decide +kernel
theorem d12 : decode yB 12 = .ok (.caload, 1) := by decide +kernel
theorem d13 : decode yB 13 = .ok (.istore 6, 2) := by decide +kernel
theorem d15 : decode yB 15 = .ok (.iload 6, 2) := by decide +kernel
theorem d17 : decode yB 17 = .ok (.sipush 255, 3) := by decide +kernel
theorem d20 : decode yB 20 = .ok (.if_icmp (.le) 6, 3) := by decide +kernel
theorem d26 : decode yB 26 = .ok (.aload_n 2, 1) := by decide +kernel
theorem d27 : decode yB 27 = .ok (.iload_n 3, 1) := by decide +kernel
theorem d28 : decode yB 28 = .ok (.iload 6, 2) := by decide +kernel
theorem d30 : decode yB 30 = .ok (.i2b, 1) := by decide +kernel
theorem d31 : decode yB 31 = .ok (.bastore, 1) := by decide +kernel
theorem d32 : decode yB 32 = .ok (.iinc 1 1, 3) := by decide +kernel
theorem d35 : decode yB 35 = .ok (.iinc 3 1, 3) := by decide +kernel
theorem d38 : decode yB 38 = .ok (.iinc 5 1, 3) := by decide +kernel
theorem d41 : decode yB 41 = .ok (.goto (-38), 3) := by decide +kernel
theorem d44 : decode yB 44 = .ok (.iload 4, 2) := by decide +kernel
theorem d46 : decode yB 46 = .ok (.ireturn, 1) := by decide +kernel
def site : List Cond := []
def tab : Cond := tabOf yN yB 7 (some .int) site
def P (b : Addr) (A : Cell) (d : Addr) (B : Cell) (o q len : Nat) (args : Array Value) (s : State) : Prop := args = #[.ref b, .int (Int32.ofNat o), .ref d, .int (Int32.ofNat q), .int (Int32.ofNat len)] ∧ Ch b A s ∧ Arr .byte d B s ∧ b ≠ d ∧ o + len ≤ A.slots.size ∧ q + len ≤ B.slots.size ∧ ∀ i, i < len → ¬ 255 < cv A (o + i)
def E (b : Addr) (A : Cell) (d : Addr) (B : Cell) (o q len : Nat) (r : Option Value) (s u : State) : Prop := r = some (.int (Int32.ofNat len)) ∧ ∃ B', Put d B' s u ∧ Laid B B' q (q + len) (fun j => Value.int (lo8 (cv A (o + (j - q)))))
/-- no char of the range above 255: len; the places written hold each char's low byte -/
theorem law (l : Launch) (b : Addr) (A : Cell) (d : Addr) (B : Cell) (o q len : Nat) : Law l yN 5 5 0 0 yB 7 (some .int) site (P b A d B o q len) (E b A d B o q len) (copyLocs d q len) 0 0 := by
  refine Law.of_walk (plainFor_of_name (by decide +kernel)) (by decide +kernel) (by decide +kernel) (by decide) (fun _ _ h => by rw [h.1]; rfl) (fun _ U U' hal hh h => ⟨h.1, h.2.1.mv hal hh, h.2.2.1.mv hal hh, h.2.2.2⟩) (fun r U U' V V' h1 hal h2 h => ⟨h.1, h.2.elim fun B' q => ⟨B', q.1.mv h1 h2, q.2⟩⟩) ?_
  intro p e s m args below meth c s₁ X0 hexec hbytes hml hret hlk hnm hown hh0 W hP
  obtain ⟨rfl, hA, hB, hne, l1, l2, hp⟩ := hP
  have c1 : Steps p.tables e below (s₁.setTop (entryFrame m #[.ref b, .int (Int32.ofNat o), .ref d, .int (Int32.ofNat q), .int (Int32.ofNat len)] 7)) (s₁.setTop (mkF m 0 #[.val (.ref b), .val (.int (Int32.ofNat o)), .val (.ref d), .val (.int (Int32.ofNat q)), .val (.int (Int32.ofNat len)), .unset, .unset] [])) := entry rfl
  have hA0 := hA.1.mv X0.warmed.alike hh0
  have hB0 := hB.mv X0.warmed.alike hh0
  have a31 := hA.1.2.2.2
  have c2 : Steps p.tables e below (s₁.setTop (entryFrame m #[.ref b, .int (Int32.ofNat o), .ref d, .int (Int32.ofNat q), .int (Int32.ofNat len)] 7)) (s₁.setTop (mkF m 3 #[.val (.ref b), .val (.int (Int32.ofNat o)), .val (.ref d), .val (.int (Int32.ofNat q)), .val (.int (Int32.ofNat len)), .val (.int 0), .unset] [])) := c1.trans (by
    refine iconstV X0.here hexec rfl 0 (hb hbytes d0) (by decide) ?_
    refine XS.istore X0.here hexec rfl (hb hbytes d1) rfl rfl ?_
    exact Steps.refl _)
  have loop : ∀ (r i : Nat), i + r = len → ∀ (z : Slot), (z = .unset ∨ ∃ w, z = .val w ∧ w.category = 1) → ∀ (Tl : State) (Bk : Cell), Stand p l e { frames := 0, locals := 0, cells := 0, slots := 0 } s m #[.ref b, .int (Int32.ofNat o), .ref d, .int (Int32.ofNat q), .int (Int32.ofNat len)] below meth c Tl ([] ++ copyLocs d q i) 0 0 → Put d Bk s₁ Tl → Laid B Bk q (q + i) (fun j => Value.int (lo8 (cv A (o + (j - q))))) →
      Steps p.tables e below (s₁.setTop (entryFrame m #[.ref b, .int (Int32.ofNat o), .ref d, .int (Int32.ofNat q), .int (Int32.ofNat len)] 7)) (Tl.setTop (mkF m 3 #[.val (.ref b), .val (.int (Int32.ofNat (o + i))), .val (.ref d), .val (.int (Int32.ofNat (q + i))), .val (.int (Int32.ofNat len)), .val (.int (Int32.ofNat i)), z] [])) → ∃ (T' : State) (B' : Cell) (z' : Slot), Stand p l e { frames := 0, locals := 0, cells := 0, slots := 0 } s m #[.ref b, .int (Int32.ofNat o), .ref d, .int (Int32.ofNat q), .int (Int32.ofNat len)] below meth c T' ([] ++ copyLocs d q len) 0 0 ∧ Put d B' s₁ T' ∧ Laid B B' q (q + len) (fun j => Value.int (lo8 (cv A (o + (j - q))))) ∧
      Steps p.tables e below (s₁.setTop (entryFrame m #[.ref b, .int (Int32.ofNat o), .ref d, .int (Int32.ofNat q), .int (Int32.ofNat len)] 7)) (T'.setTop (mkF m 3 #[.val (.ref b), .val (.int (Int32.ofNat (o + len))), .val (.ref d), .val (.int (Int32.ofNat (q + len))), .val (.int (Int32.ofNat len)), .val (.int (Int32.ofNat len)), z'] [])) := by
    intro r
    induction r with
    | zero =>
      intro i hi z hz Tl Bk Xl pl fl cl
      have hil : i = len := by omega
      rw [hil] at Xl fl cl
      exact ⟨Tl, Bk, z, Xl, pl, fl, cl⟩
    | succ r ih =>
      intro i hi z hz Tl Bk Xl pl fl cl
      have all := X0.warmed.alike.symm.trans Xl.warmed.alike
      have hAl := hA0.keep all (pl.other hne hA0.1)
      have hBk := hB0.like all pl.1 fl.1 fl.2.1 fl.2.2.1
      have hlt : q + i < Bk.slots.size := by rw [fl.2.2.1]; omega
      have c3 : Steps p.tables e below (s₁.setTop (entryFrame m #[.ref b, .int (Int32.ofNat o), .ref d, .int (Int32.ofNat q), .int (Int32.ofNat len)] 7)) (Tl.setTop (mkF m 12 #[.val (.ref b), .val (.int (Int32.ofNat (o + i))), .val (.ref d), .val (.int (Int32.ofNat (q + i))), .val (.int (Int32.ofNat len)), .val (.int (Int32.ofNat i)), z] [.int (Int32.ofNat (o + i)), .ref b])) := cl.trans (by
        refine XS.iload Xl.here hexec rfl (hb hbytes d3) rfl ?_
        refine XS.iload Xl.here hexec rfl (hb hbytes d5) rfl ?_
        refine XS.icmpNo Xl.here hexec rfl (hb hbytes d7) rfl (ii_ge_f (lt32 (by omega) (by omega))) ?_
        refine XS.aloadN Xl.here hexec rfl (hb hbytes d10) rfl rfl ?_
        refine XS.iloadN Xl.here hexec rfl (hb hbytes d11) rfl ?_
        exact Steps.refl _)
      have c4 : Steps p.tables e below (s₁.setTop (entryFrame m #[.ref b, .int (Int32.ofNat o), .ref d, .int (Int32.ofNat q), .int (Int32.ofNat len)] 7)) (Tl.setTop (mkF m 13 #[.val (.ref b), .val (.int (Int32.ofNat (o + i))), .val (.ref d), .val (.int (Int32.ofNat (q + i))), .val (.int (Int32.ofNat len)), .val (.int (Int32.ofNat i)), z] [.int (cv A (o + i))])) := c3.trans (by
        refine Xl.aget hexec hAl rfl (hA.get (i := o + i) (by omega)) rfl rfl (hb hbytes d12) ?_
        exact Steps.refl _)
      have c5 : Steps p.tables e below (s₁.setTop (entryFrame m #[.ref b, .int (Int32.ofNat o), .ref d, .int (Int32.ofNat q), .int (Int32.ofNat len)] 7)) (Tl.setTop (mkF m 15 #[.val (.ref b), .val (.int (Int32.ofNat (o + i))), .val (.ref d), .val (.int (Int32.ofNat (q + i))), .val (.int (Int32.ofNat len)), .val (.int (Int32.ofNat i)), .val (.int (cv A (o + i)))] [])) := c4.trans (by
        refine XS.istoreS Xl.here hexec rfl (hb hbytes d13) rfl rfl hz ?_
        exact Steps.refl _)
      have c6 : Steps p.tables e below (s₁.setTop (entryFrame m #[.ref b, .int (Int32.ofNat o), .ref d, .int (Int32.ofNat q), .int (Int32.ofNat len)] 7)) (Tl.setTop (mkF m 31 #[.val (.ref b), .val (.int (Int32.ofNat (o + i))), .val (.ref d), .val (.int (Int32.ofNat (q + i))), .val (.int (Int32.ofNat len)), .val (.int (Int32.ofNat i)), .val (.int (cv A (o + i)))] [.int (lo8 (cv A (o + i))), .int (Int32.ofNat (q + i)), .ref d])) := c5.trans (by
        refine XS.iload Xl.here hexec rfl (hb hbytes d15) rfl ?_
        refine sipushV Xl.here hexec rfl 255 (hb hbytes d17) (by decide) ?_
        refine XS.icmpYes Xl.here hexec rfl (pc0 := 20) rfl (hb hbytes d20) rfl (ii_le_t (hp i (by omega))) (by decide) rfl ?_
        refine XS.aloadN Xl.here hexec rfl (hb hbytes d26) rfl rfl ?_
        refine XS.iloadN Xl.here hexec rfl (hb hbytes d27) rfl ?_
        refine XS.iload Xl.here hexec rfl (hb hbytes d28) rfl ?_
        refine i2b Xl.here hexec rfl (hb hbytes d30) rfl ?_
        exact Steps.refl _)
      obtain ⟨T7, X7, p7, st7⟩ := Xl.aput hexec hBk rfl hlt rfl (fits_lo8 (cv A (o + i))) (g := (mkF m 31 #[.val (.ref b), .val (.int (Int32.ofNat (o + i))), .val (.ref d), .val (.int (Int32.ofNat (q + i))), .val (.int (Int32.ofNat len)), .val (.int (Int32.ofNat i)), .val (.int (cv A (o + i)))] [.int (lo8 (cv A (o + i))), .int (Int32.ofNat (q + i)), .ref d])) rfl (rest := []) rfl (hb hbytes d31)
      have c8 : Steps p.tables e below (s₁.setTop (entryFrame m #[.ref b, .int (Int32.ofNat o), .ref d, .int (Int32.ofNat q), .int (Int32.ofNat len)] 7)) (T7.setTop (mkF m 32 #[.val (.ref b), .val (.int (Int32.ofNat (o + i))), .val (.ref d), .val (.int (Int32.ofNat (q + i))), .val (.int (Int32.ofNat len)), .val (.int (Int32.ofNat i)), .val (.int (cv A (o + i)))] [])) := c6.trans (st7 _ (Steps.refl _))
      have c9 : Steps p.tables e below (s₁.setTop (entryFrame m #[.ref b, .int (Int32.ofNat o), .ref d, .int (Int32.ofNat q), .int (Int32.ofNat len)] 7)) (T7.setTop (mkF m 3 #[.val (.ref b), .val (.int (Int32.ofNat (o + i) + 1)), .val (.ref d), .val (.int (Int32.ofNat (q + i) + 1)), .val (.int (Int32.ofNat len)), .val (.int (Int32.ofNat i + 1)), .val (.int (cv A (o + i)))] [])) := c8.trans (by
        refine iincV X7.here hexec rfl 1 (hb hbytes d32) (by decide) rfl rfl ?_
        refine iincV X7.here hexec rfl 1 (hb hbytes d35) (by decide) rfl rfl ?_
        refine iincV X7.here hexec rfl 1 (hb hbytes d38) (by decide) rfl rfl ?_
        refine XS.goto X7.here hexec rfl (pc0 := 41) rfl (hb hbytes d41) (by decide) rfl ?_
        exact Steps.refl _)
      have c10 : Steps p.tables e below (s₁.setTop (entryFrame m #[.ref b, .int (Int32.ofNat o), .ref d, .int (Int32.ofNat q), .int (Int32.ofNat len)] 7)) (T7.setTop (mkF m 3 #[.val (.ref b), .val (.int (Int32.ofNat (o + (i + 1)))), .val (.ref d), .val (.int (Int32.ofNat (q + (i + 1)))), .val (.int (Int32.ofNat len)), .val (.int (Int32.ofNat (i + 1))), .val (.int (cv A (o + i)))] [])) := by
        have := c9
        rw [succ32, succ32, succ32] at this
        exact this
      exact ih (i + 1) (by omega) _ (Or.inr ⟨_, rfl, rfl⟩) T7 _ (by rw [copyLocs_step, ← List.append_assoc]; exact X7) (pl.trans p7) (fl.step (by omega) hlt (by simp)) c10
  obtain ⟨T9, B9, z9, X9, p9, f9, g9⟩ := loop len 0 (by omega) .unset (Or.inl rfl) s₁ B (by simpa [copyLocs] using X0) ⟨hB0.1, fun _ _ => rfl, rfl⟩ (Laid.zero _ _ _) c2
  have c11 : Steps p.tables e below (s₁.setTop (entryFrame m #[.ref b, .int (Int32.ofNat o), .ref d, .int (Int32.ofNat q), .int (Int32.ofNat len)] 7)) (T9.setTop (mkF m 46 #[.val (.ref b), .val (.int (Int32.ofNat (o + len))), .val (.ref d), .val (.int (Int32.ofNat (q + len))), .val (.int (Int32.ofNat len)), .val (.int (Int32.ofNat len)), z9] [.int (Int32.ofNat len)])) := g9.trans (by
    refine XS.iload X9.here hexec rfl (hb hbytes d3) rfl ?_
    refine XS.iload X9.here hexec rfl (hb hbytes d5) rfl ?_
    refine XS.icmpYes X9.here hexec rfl (pc0 := 7) rfl (hb hbytes d7) rfl (ii_ge_t (nlt32 (by omega) (Nat.le_refl _))) (by decide) rfl ?_
    refine XS.iload X9.here hexec rfl (hb hbytes d44) rfl ?_
    exact Steps.refl _)
  exact ⟨T9, some (.int (Int32.ofNat len)), _, _, _, X9, by simp, rfl, rfl, (fun h => by cases h), ⟨rfl, B9, p9.from hh0, f9⟩, fun fs hl => c11.trans (X9.ireturnOut hexec hret rfl (Or.inl rfl) (hb hbytes d46) hl)⟩
end Cmp5
namespace Cmp3
def yN : MethodName := ⟨"java/lang/StringUTF16", "compress", "([CII)[B"⟩
abbrev yB : ByteArray := jdk_52_method_16_code
theorem d0 : decode yB 0 = .ok (.iload_n 2, 1) := by decide +kernel
theorem d1 : decode yB 1 = .ok (.newarray .byte, 2) := by decide +kernel
theorem d3 : decode yB 3 = .ok (.astore_n 3, 1) := by decide +kernel
theorem d4 : decode yB 4 = .ok (.aload_n 0, 1) := by decide +kernel
theorem d5 : decode yB 5 = .ok (.iload_n 1, 1) := by decide +kernel
theorem d6 : decode yB 6 = .ok (.aload_n 3, 1) := by decide +kernel
theorem d7 : decode yB 7 = .ok (.iconst 0, 1) := by decide +kernel
theorem d8 : decode yB 8 = .ok (.iload_n 2, 1) := by decide +kernel
theorem d9 : decode yB 9 = .ok (.invokestatic 115, 3) := by decide +kernel
theorem d12 : decode yB 12 = .ok (.istore 4, 2) := by decide +kernel
theorem d14 : decode yB 14 = .ok (.iload 4, 2) := by decide +kernel
theorem d16 : decode yB 16 = .ok (.iload_n 2, 1) := by decide +kernel
theorem d17 : decode yB 17 = .ok (.if_icmp (.eq) 40, 3) := by decide +kernel
theorem d57 : decode yB 57 = .ok (.aload_n 3, 1) := by decide +kernel
theorem d58 : decode yB 58 = .ok (.areturn, 1) := by decide +kernel
def site : List Cond := [.arrayClass .byte, Cmp5.tab] ++ staticW U16 115 Cmp5.yN
def tab : Cond := tabOf yN yB 6 (some (.array .byte)) site
def P (b : Addr) (A : Cell) (o len : Nat) (args : Array Value) (s : State) : Prop := args = #[.ref b, .int (Int32.ofNat o), .int (Int32.ofNat len)] ∧ Ch b A s ∧ o + len ≤ A.slots.size ∧ len ≤ 536870912 ∧ ∀ i, i < len → ¬ 255 < cv A (o + i)
def E (b : Addr) (A : Cell) (o len : Nat) (r : Option Value) (s u : State) : Prop := NewArr .byte "[B" len (fun j => .int (lo8 (cv A (o + j)))) r s u ∧ u.heap.size = s.heap.size + 1
/-- no char of the range above 255: a new byte[] of their low bytes -/
theorem law (l : Launch) (b : Addr) (A : Cell) (o len : Nat) : Law l yN 3 3 1 18 yB 6 (some (.array .byte)) site (P b A o len) (E b A o len) [] 1 len := by
  refine Law.of_walk (plainFor_of_name (by decide +kernel)) (by decide +kernel) (by decide +kernel) (by decide) (fun _ _ h => by rw [h.1]; rfl) (fun _ U U' hal hh h => ⟨h.1, h.2.1.mv hal hh, h.2.2⟩) (fun r U U' V V' h1 hal h2 h => ⟨NewArr.mv r U U' V V' h1 hal h2 h.1, by rw [h1, h2]; exact h.2⟩) ?_
  intro p e s m args below meth c s₁ X0 hexec hbytes hml hret hlk hnm hown hh0 W hP
  obtain ⟨rfl, hA, l1, l2, hp⟩ := hP
  have a31 := hA.1.2.2.2
  have c1 : Steps p.tables e below (s₁.setTop (entryFrame m #[.ref b, .int (Int32.ofNat o), .int (Int32.ofNat len)] 6)) (s₁.setTop (mkF m 0 #[.val (.ref b), .val (.int (Int32.ofNat o)), .val (.int (Int32.ofNat len)), .unset, .unset, .unset] [])) := entry rfl
  have c2 : Steps p.tables e below (s₁.setTop (entryFrame m #[.ref b, .int (Int32.ofNat o), .int (Int32.ofNat len)] 6)) (s₁.setTop (mkF m 1 #[.val (.ref b), .val (.int (Int32.ofNat o)), .val (.int (Int32.ofNat len)), .unset, .unset, .unset] [.int (Int32.ofNat len)])) := c1.trans (by
    refine XS.iloadN X0.here hexec rfl (hb hbytes d0) rfl ?_
    exact Steps.refl _)
  obtain ⟨T3, B3, X3, ba3, bs3, bv3, bh3, bf3, st3⟩ := X0.anew hexec (atype := .byte) (wk W (.arrayClass .byte)) rfl (by show len * 1 ≤ _; omega) (by omega) (g := (mkF m 1 #[.val (.ref b), .val (.int (Int32.ofNat o)), .val (.int (Int32.ofNat len)), .unset, .unset, .unset] [.int (Int32.ofNat len)])) rfl (hb hbytes d1) (rest := []) rfl (Nat.le_refl _) (by show 0 + len ≤ len; omega)
  rw [hh0] at ba3 st3
  have kp3 : XT.Kept s T3 := (XT.Kept.of_eq hh0).push bh3
  have hA3 := hA.keep X3.warmed.alike (kp3 _ _ hA.1.1)
  have hne : b ≠ s.heap.size := hA.1.ne
  have c4 : Steps p.tables e below (s₁.setTop (entryFrame m #[.ref b, .int (Int32.ofNat o), .int (Int32.ofNat len)] 6)) (T3.setTop (mkF m 3 #[.val (.ref b), .val (.int (Int32.ofNat o)), .val (.int (Int32.ofNat len)), .unset, .unset, .unset] [.ref s.heap.size])) := c2.trans (st3 _ (Steps.refl _))
  have c5 : Steps p.tables e below (s₁.setTop (entryFrame m #[.ref b, .int (Int32.ofNat o), .int (Int32.ofNat len)] 6)) (T3.setTop (mkF m 9 #[.val (.ref b), .val (.int (Int32.ofNat o)), .val (.int (Int32.ofNat len)), .val (.ref s.heap.size), .unset, .unset] [.int (Int32.ofNat len), .int 0, .ref s.heap.size, .int (Int32.ofNat o), .ref b])) := c4.trans (by
    refine XS.astoreN X3.here hexec rfl (hb hbytes d3) rfl rfl rfl ?_
    refine XS.aloadN X3.here hexec rfl (hb hbytes d4) rfl rfl ?_
    refine XS.iloadN X3.here hexec rfl (hb hbytes d5) rfl ?_
    refine XS.aloadN X3.here hexec rfl (hb hbytes d6) rfl rfl ?_
    refine iconstV X3.here hexec rfl 0 (hb hbytes d7) (by decide) ?_
    refine XS.iloadN X3.here hexec rfl (hb hbytes d8) rfl ?_
    exact Steps.refl _)
  obtain ⟨v6, T6, X6, E6, g6⟩ := X3.callS hexec (Cmp5.law l b A s.heap.size B3 o 0 len) hown (wks W (staticW U16 115 Cmp5.yN)) (wk W Cmp5.tab) (W := 0) (Nat.le_of_ble_eq_true rfl) (Nat.le_of_ble_eq_true rfl) (Nat.le_refl _) (by show 0 + len + 0 ≤ len; omega) (g := (mkF m 9 #[.val (.ref b), .val (.int (Int32.ofNat o)), .val (.int (Int32.ofNat len)), .val (.ref s.heap.size), .unset, .unset] [.int (Int32.ofNat len), .int (Int32.ofNat 0), .ref s.heap.size, .int (Int32.ofNat o), .ref b])) rfl (by rw [hml]; rfl) c5 (argsL := [.ref b, .int (Int32.ofNat o), .ref s.heap.size, .int (Int32.ofNat 0), .int (Int32.ofNat len)]) (rest := []) rfl rfl (by show 2 * 0 + 0 ≤ _; decide) (hb hbytes d9) (⟨rfl, hA3, ba3, hne, l1, by rw [bs3]; simp, hp⟩)
  obtain ⟨rfl, B6, p6, f6⟩ := E6
  have c7 : Steps p.tables e below (s₁.setTop (entryFrame m #[.ref b, .int (Int32.ofNat o), .int (Int32.ofNat len)] 6)) (T6.setTop (mkF m 12 #[.val (.ref b), .val (.int (Int32.ofNat o)), .val (.int (Int32.ofNat len)), .val (.ref s.heap.size), .unset, .unset] [.int (Int32.ofNat len)])) := g6
  have c8 : Steps p.tables e below (s₁.setTop (entryFrame m #[.ref b, .int (Int32.ofNat o), .int (Int32.ofNat len)] 6)) (T6.setTop (mkF m 58 #[.val (.ref b), .val (.int (Int32.ofNat o)), .val (.int (Int32.ofNat len)), .val (.ref s.heap.size), .val (.int (Int32.ofNat len)), .unset] [.ref s.heap.size])) := c7.trans (by
    refine XS.istore X6.here hexec rfl (hb hbytes d12) rfl rfl ?_
    refine XS.iload X6.here hexec rfl (hb hbytes d14) rfl ?_
    refine XS.iloadN X6.here hexec rfl (hb hbytes d16) rfl ?_
    refine XS.icmpYes X6.here hexec rfl (pc0 := 17) rfl (hb hbytes d17) rfl (ii_eq_t rfl) (by decide) rfl ?_
    refine XS.aloadN X6.here hexec rfl (hb hbytes d57) rfl rfl ?_
    exact Steps.refl _)
  have X8 := X6.wide (L' := []) (cells' := 1) (slots' := len) (fun x hx hlt => by
    simp only [List.nil_append, copyLocs, List.mem_map, List.mem_range] at hx
    obtain ⟨i, -, rfl⟩ := hx
    exact absurd hlt (Nat.lt_irrefl _)) (Nat.le_refl _) (by omega)
  exact ⟨T6, some (.ref s.heap.size), _, _, _, X8, rfl, rfl, rfl, (fun h => by cases h), ⟨⟨rfl, B6, ba3.like (X3.warmed.alike.symm.trans X6.warmed.alike) p6.1 f6.1 f6.2.1 f6.2.2.1, f6.2.1.trans bv3, by rw [X6.warmed.alike.findClass, f6.1]; exact bf3, by rw [f6.2.2.1, bs3]; simp, fun j hj => by rw [f6.2.2.2 j, if_pos (by omega)]; rfl, kp3.put p6 (Nat.le_refl _)⟩, by rw [p6.2.2, bh3, hh0]; simp⟩, fun fs hl => c8.trans (X8.areturnOut hexec rfl hret rfl (hb hbytes d58) hl)⟩
end Cmp3
namespace CodL
def yN : MethodName := ⟨"java/lang/StringUTF16", "coderFromArrayLen", "([BI)B"⟩
abbrev yB : ByteArray := jdk_52_method_15_code
theorem d0 : decode yB 0 = .ok (.iload_n 1, 1) := by decide +kernel
theorem d1 : decode yB 1 = .ok (.aload_n 0, 1) := by decide +kernel
theorem d2 : decode yB 2 = .ok (.arraylength, 1) := by decide +kernel
theorem d3 : decode yB 3 = .ok (.isub, 1) := by decide +kernel
theorem d4 : decode yB 4 = .ok (.bipush 31, 2) := by decide +kernel
theorem d6 : decode yB 6 = .ok (.iushr, 1) := by decide +kernel
theorem d7 : decode yB 7 = .ok (.i2b, 1) := by decide +kernel
theorem d8 : decode yB 8 = .ok (.ireturn, 1) := by decide +kernel
def site : List Cond := []
def tab : Cond := tabOf yN yB 2 (some .byte) site
def P (d : Addr) (B : Cell) (args : Array Value) (s : State) : Prop := args = #[.ref d, .int (Int32.ofNat B.slots.size)] ∧ Arr .byte d B s
def E (r : Option Value) (s u : State) : Prop := XT.PureE (some (.int 0)) r s u
/-- an array as long as the number of chars: LATIN1 -/
theorem law (l : Launch) (d : Addr) (B : Cell) : Law l yN 2 2 0 0 yB 2 (some .byte) site (P d B) E [] 0 0 := by
  refine Law.of_walk (plainFor_of_name (by decide +kernel)) (by decide +kernel) (by decide +kernel) (by decide) (fun _ _ h => by rw [h.1]; rfl) (fun _ U U' hal hh h => ⟨h.1, h.2.mv hal hh⟩) (fun r U U' V V' h1 hal h2 h => XT.PureE.mv r U U' V V' h1 hal h2 h) ?_
  intro p e s m args below meth c s₁ X0 hexec hbytes hml hret hlk hnm hown hh0 W hP
  obtain ⟨rfl, hB⟩ := hP
  have hB0 := hB.mv X0.warmed.alike hh0
  have c1 : Steps p.tables e below (s₁.setTop (entryFrame m #[.ref d, .int (Int32.ofNat B.slots.size)] 2)) (s₁.setTop (mkF m 0 #[.val (.ref d), .val (.int (Int32.ofNat B.slots.size))] [])) := entry rfl
  have c2 : Steps p.tables e below (s₁.setTop (entryFrame m #[.ref d, .int (Int32.ofNat B.slots.size)] 2)) (s₁.setTop (mkF m 2 #[.val (.ref d), .val (.int (Int32.ofNat B.slots.size))] [.ref d, .int (Int32.ofNat B.slots.size)])) := c1.trans (by
    refine XS.iloadN X0.here hexec rfl (hb hbytes d0) rfl ?_
    refine XS.aloadN X0.here hexec rfl (hb hbytes d1) rfl rfl ?_
    exact Steps.refl _)
  have c3 : Steps p.tables e below (s₁.setTop (entryFrame m #[.ref d, .int (Int32.ofNat B.slots.size)] 2)) (s₁.setTop (mkF m 8 #[.val (.ref d), .val (.int (Int32.ofNat B.slots.size))] [.int (lo8 (ushr (Int32.ofNat B.slots.size - Int32.ofNat B.slots.size) 31))])) := c2.trans (by
    refine X0.alen hexec hB0 rfl rfl (hb hbytes d2) ?_
    refine XS.isub X0.here hexec rfl (hb hbytes d3) rfl ?_
    refine bipushV X0.here hexec rfl 31 (hb hbytes d4) (by decide) ?_
    refine iushr X0.here hexec rfl (hb hbytes d6) rfl ?_
    refine i2b X0.here hexec rfl (hb hbytes d7) rfl ?_
    exact Steps.refl _)
  have e0 : lo8 (ushr (Int32.ofNat B.slots.size - Int32.ofNat B.slots.size) 31) = 0 := by rw [Int32.sub_self]; decide
  rw [e0] at c3
  exact ⟨s₁, some (.int 0), _, _, _, X0, rfl, rfl, rfl, (fun h => by cases h), ⟨rfl, hh0⟩, fun fs hl => c3.trans (X0.ireturnOut hexec hret rfl (Or.inr (Or.inr (Or.inl rfl))) (hb hbytes d8) hl)⟩
end CodL
/-- the String at a is Latin-1 over a new byte[] (the heap's one new cell): the low bytes of the len chars of A from o on; every cell but a is kept -/
def Got (a : Addr) (D : Cell) (fV fC : Field) (A : Cell) (o len : Nat) (r : Option Value) (s u : State) : Prop := r = none ∧ ∃ D' V : Cell, Blank "java/lang/String" a D' u ∧ Same D D' [fV.slot, fC.slot] ∧ D'.slots[fV.slot]? = some (.ref s.heap.size) ∧ D'.slots[fC.slot]? = some (.int 0) ∧ Arr .byte s.heap.size V u ∧ V.vm = .none ∧ u.vm.findClass "[B" = some V.cls ∧ V.slots.size = len ∧ (∀ j, j < len → V.slots[j]? = some (.int (lo8 (cv A (o + j))))) ∧ (∀ (y : Addr) (c : Cell), y ≠ a → s.heap[y]? = some c → u.heap[y]? = some c) ∧ u.heap.size = s.heap.size + 1
theorem Got.mv {a : Addr} {D A : Cell} {fV fC : Field} {o len : Nat} : ∀ r (U U' V V' : State), U'.heap = U.heap → V.vm.Alike V'.vm → V'.heap = V.heap → Got a D fV fC A o len r U V → Got a D fV fC A o len r U' V' :=
  fun r U U' V V' h1 hal h2 ⟨e0, D', X, a1, a2, a3, a4, a5, a6, a7, a8, a9, a10, a11⟩ => ⟨e0, D', X, a1.mv hal h2, a2, by rw [h1]; exact a3, a4, by rw [h1]; exact a5.mv hal h2, a6, by rw [hal.findClass]; exact a7, a8, a9, by rw [h1, h2]; exact a10, by rw [h1, h2]; exact a11⟩
namespace New4
def yN : MethodName := ⟨"java/lang/String", "<init>", "([CIILjava/lang/Void;)V"⟩
abbrev yB : ByteArray := jdk_42_method_149_code
theorem d0 : decode yB 0 = .ok (.aload_n 0, 1) := by decide +kernel
theorem d1 : decode yB 1 = .ok (.invokespecial 1, 3) := by decide +kernel
theorem d4 : decode yB 4 = .ok (.iload_n 3, 1) := by decide +kernel
theorem d5 : decode yB 5 = .ok (.ifCond (.ne) 22, 3) := by decide +kernel
theorem d27 : decode yB 27 = .ok (.getstatic 38, 3) := by decide +kernel
theorem d30 : decode yB 30 = .ok (.ifCond (.eq) 28, 3) := by decide +kernel
theorem d33 : decode yB 33 = .ok (.aload_n 1, 1) := by decide +kernel
theorem d34 : decode yB 34 = .ok (.iload_n 2, 1) := by decide +kernel
theorem d35 : decode yB 35 = .ok (.iload_n 3, 1) := by decide +kernel
theorem d36 : decode yB 36 = .ok (.invokestatic 177, 3) := by decide +kernel
theorem d39 : decode yB 39 = .ok (.astore 5, 2) := by decide +kernel
theorem d41 : decode yB 41 = .ok (.aload_n 0, 1) := by decide +kernel
theorem d42 : decode yB 42 = .ok (.aload 5, 2) := by decide +kernel
theorem d44 : decode yB 44 = .ok (.iload_n 3, 1) := by decide +kernel
theorem d45 : decode yB 45 = .ok (.invokestatic 47, 3) := by decide +kernel
theorem d48 : decode yB 48 = .ok (.putfield 15, 3) := by decide +kernel
theorem d51 : decode yB 51 = .ok (.aload_n 0, 1) := by decide +kernel
theorem d52 : decode yB 52 = .ok (.aload 5, 2) := by decide +kernel
theorem d54 : decode yB 54 = .ok (.putfield 9, 3) := by decide +kernel
theorem d57 : decode yB 57 = .ok (.return_, 1) := by decide +kernel
def site : List Cond := [.fieldLink "java/lang/String" 38 "java/lang/String" "COMPACT_STRINGS" "Z", Cmp3.tab, CodL.tab, .laysFinal "java/lang/String" "java/lang/String" "value" "[B", .fieldLink "java/lang/String" 9 "java/lang/String" "value" "[B", .laysFinal "java/lang/String" "java/lang/String" "coder" "B", .fieldLink "java/lang/String" 15 "java/lang/String" "coder" "B"] ++ objW "java/lang/String" 1 ++ staticW "java/lang/String" 177 Cmp3.yN ++ staticW "java/lang/String" 47 CodL.yN
def tab : Cond := tabOf yN yB 6 none site
def P (a : Addr) (D : Cell) (fV fC : Field) (b : Addr) (A : Cell) (z : Int32) (o len : Nat) (args : Array Value) (s : State) : Prop := args = #[.ref a, .ref b, .int (Int32.ofNat o), .int (Int32.ofNat len), .null] ∧ Blank "java/lang/String" a D s ∧ Found "java/lang/String" "value" "[B" fV s ∧ Found "java/lang/String" "coder" "B" fC s ∧ Ch b A s ∧ StaticIs s "java/lang/String" "COMPACT_STRINGS" "Z" (.int z) ∧ ¬ z = 0 ∧ 0 < len ∧ o + len ≤ A.slots.size ∧ len ≤ 536870912 ∧ ∀ i, i < len → ¬ 255 < cv A (o + i)
def E (a : Addr) (D : Cell) (fV fC : Field) (A : Cell) (o len : Nat) (r : Option Value) (s u : State) : Prop := Got a D fV fC A o len r s u
/-- len > 0, no char of the range above 255: a Latin-1 String of their low bytes -/
theorem law (l : Launch) (a : Addr) (D : Cell) (fV fC : Field) (b : Addr) (A : Cell) (z : Int32) (o len : Nat) : Law l yN 5 4 2 35 yB 6 none site (P a D fV fC b A z o len) (E a D fV fC A o len) [⟨a, fC.slot⟩, ⟨a, fV.slot⟩] 1 len := by
  refine Law.of_walk (plainFor_of_name (by decide +kernel)) (by decide +kernel) (by decide +kernel) (by decide) (fun _ _ h => by rw [h.1]; rfl) (fun _ U U' hal hh h => ⟨h.1, h.2.1.mv hal hh, h.2.2.1.al hal, h.2.2.2.1.al hal, h.2.2.2.2.1.mv hal hh, h.2.2.2.2.2.1.there hal hh, h.2.2.2.2.2.2⟩) (fun r U U' V V' h1 hal h2 h => Got.mv r U U' V V' h1 hal h2 h) ?_
  intro p e s m args below meth c s₁ X0 hexec hbytes hml hret hlk hnm hown hh0 W hP
  obtain ⟨rfl, hB, f1, f2, hA, s1, hz, l0, l1, l2, hp⟩ := hP
  have a31 := hA.1.2.2.2
  have c1 : Steps p.tables e below (s₁.setTop (entryFrame m #[.ref a, .ref b, .int (Int32.ofNat o), .int (Int32.ofNat len), .null] 6)) (s₁.setTop (mkF m 0 #[.val (.ref a), .val (.ref b), .val (.int (Int32.ofNat o)), .val (.int (Int32.ofNat len)), .val .null, .unset] [])) := entry rfl
  have c2 : Steps p.tables e below (s₁.setTop (entryFrame m #[.ref a, .ref b, .int (Int32.ofNat o), .int (Int32.ofNat len), .null] 6)) (s₁.setTop (mkF m 1 #[.val (.ref a), .val (.ref b), .val (.int (Int32.ofNat o)), .val (.int (Int32.ofNat len)), .val .null, .unset] [.ref a])) := c1.trans (by
    refine XS.aloadN X0.here hexec rfl (hb hbytes d0) rfl rfl ?_
    exact Steps.refl _)
  obtain ⟨T3, X3, q3, st3⟩ := X0.oinit hexec hown (wks W (objW "java/lang/String" 1)) (g := (mkF m 1 #[.val (.ref a), .val (.ref b), .val (.int (Int32.ofNat o)), .val (.int (Int32.ofNat len)), .val .null, .unset] [.ref a])) rfl (by rw [hml]; rfl) (rest := []) rfl (hb hbytes d1) (W := 0) (by show 2 * 0 + 0 ≤ _; decide) (Nat.le_of_ble_eq_true rfl) (Nat.le_of_ble_eq_true rfl)
  have hh3 := q3.trans hh0
  have c4 : Steps p.tables e below (s₁.setTop (entryFrame m #[.ref a, .ref b, .int (Int32.ofNat o), .int (Int32.ofNat len), .null] 6)) (T3.setTop (mkF m 27 #[.val (.ref a), .val (.ref b), .val (.int (Int32.ofNat o)), .val (.int (Int32.ofNat len)), .val .null, .unset] [])) := (c2.trans (st3 _ (Steps.refl _))).trans (by
    refine XS.iloadN X3.here hexec rfl (hb hbytes d4) rfl ?_
    refine XS.ifYes X3.here hexec rfl (pc0 := 5) rfl (hb hbytes d5) rfl (i0_ne_t (nz32 (by omega) l0)) (by decide) rfl ?_
    exact Steps.refl _)
  obtain ⟨T5, X5, q5, st5⟩ := X3.sget hexec hown (wk W (.fieldLink "java/lang/String" 38 "java/lang/String" "COMPACT_STRINGS" "Z")) s1 (fun _ _ h => by rw [hh3]; exact h) (g := (mkF m 27 #[.val (.ref a), .val (.ref b), .val (.int (Int32.ofNat o)), .val (.int (Int32.ofNat len)), .val .null, .unset] [])) rfl (hb hbytes d27)
  have hh5 := q5.trans hh3
  have c6 : Steps p.tables e below (s₁.setTop (entryFrame m #[.ref a, .ref b, .int (Int32.ofNat o), .int (Int32.ofNat len), .null] 6)) (T5.setTop (mkF m 30 #[.val (.ref a), .val (.ref b), .val (.int (Int32.ofNat o)), .val (.int (Int32.ofNat len)), .val .null, .unset] [.int z])) := c4.trans (st5 _ (Steps.refl _))
  have c7 : Steps p.tables e below (s₁.setTop (entryFrame m #[.ref a, .ref b, .int (Int32.ofNat o), .int (Int32.ofNat len), .null] 6)) (T5.setTop (mkF m 36 #[.val (.ref a), .val (.ref b), .val (.int (Int32.ofNat o)), .val (.int (Int32.ofNat len)), .val .null, .unset] [.int (Int32.ofNat len), .int (Int32.ofNat o), .ref b])) := c6.trans (by
    refine XS.ifNo X5.here hexec rfl (hb hbytes d30) rfl (i0_eq_f hz) ?_
    refine XS.aloadN X5.here hexec rfl (hb hbytes d33) rfl rfl ?_
    refine XS.iloadN X5.here hexec rfl (hb hbytes d34) rfl ?_
    refine XS.iloadN X5.here hexec rfl (hb hbytes d35) rfl ?_
    exact Steps.refl _)
  obtain ⟨v8, T8, X8, E8, g8⟩ := X5.callS hexec (Cmp3.law l b A o len) hown (wks W (staticW "java/lang/String" 177 Cmp3.yN)) (wk W Cmp3.tab) (W := 0) (Nat.le_of_ble_eq_true rfl) (Nat.le_of_ble_eq_true rfl) (Nat.le_refl _) (by show 0 + len ≤ len; omega) (g := (mkF m 36 #[.val (.ref a), .val (.ref b), .val (.int (Int32.ofNat o)), .val (.int (Int32.ofNat len)), .val .null, .unset] [.int (Int32.ofNat len), .int (Int32.ofNat o), .ref b])) rfl (by rw [hml]; rfl) c7 (argsL := [.ref b, .int (Int32.ofNat o), .int (Int32.ofNat len)]) (rest := []) rfl rfl (by show 2 * 0 + 0 ≤ _; decide) (hb hbytes d36) (⟨rfl, hA.mv X5.warmed.alike hh5, l1, l2, hp⟩)
  obtain ⟨e8, z8⟩ := E8
  obtain ⟨rfl, N, n1, n2, n3, n4, n5, n6⟩ := NewArr.mv _ T5 s _ _ hh5.symm (Vm.Alike.refl _) rfl e8
  rw [hh5] at z8
  have hB1 := hB.keep X8.warmed.alike (n6 _ _ hB.1)
  have hne : s.heap.size ≠ a := (Nat.ne_of_lt (Array.getElem?_eq_some_iff.mp hB.1).1).symm
  have c9 : Steps p.tables e below (s₁.setTop (entryFrame m #[.ref a, .ref b, .int (Int32.ofNat o), .int (Int32.ofNat len), .null] 6)) (T8.setTop (mkF m 39 #[.val (.ref a), .val (.ref b), .val (.int (Int32.ofNat o)), .val (.int (Int32.ofNat len)), .val .null, .unset] [.ref s.heap.size])) := g8
  have c10 : Steps p.tables e below (s₁.setTop (entryFrame m #[.ref a, .ref b, .int (Int32.ofNat o), .int (Int32.ofNat len), .null] 6)) (T8.setTop (mkF m 45 #[.val (.ref a), .val (.ref b), .val (.int (Int32.ofNat o)), .val (.int (Int32.ofNat len)), .val .null, .val (.ref s.heap.size)] [.int (Int32.ofNat N.slots.size), .ref s.heap.size, .ref a])) := by
    have hc : Steps p.tables e below (s₁.setTop (entryFrame m #[.ref a, .ref b, .int (Int32.ofNat o), .int (Int32.ofNat len), .null] 6)) (T8.setTop (mkF m 45 #[.val (.ref a), .val (.ref b), .val (.int (Int32.ofNat o)), .val (.int (Int32.ofNat len)), .val .null, .val (.ref s.heap.size)] [.int (Int32.ofNat len), .ref s.heap.size, .ref a])) := c9.trans (by
      refine XS.astore X8.here hexec rfl (hb hbytes d39) rfl rfl rfl ?_
      refine XS.aloadN X8.here hexec rfl (hb hbytes d41) rfl rfl ?_
      refine XS.aload X8.here hexec rfl (hb hbytes d42) rfl rfl ?_
      refine XS.iloadN X8.here hexec rfl (hb hbytes d44) rfl ?_
      exact Steps.refl _)
    rw [n4]; exact hc
  obtain ⟨v11, T11, X11, E11, g11⟩ := X8.callS hexec (CodL.law l s.heap.size N) hown (wks W (staticW "java/lang/String" 47 CodL.yN)) (wk W CodL.tab) (W := 1) (Nat.le_of_ble_eq_true rfl) (Nat.le_of_ble_eq_true rfl) (Nat.le_refl _) (by show 0 + len + 0 ≤ len; omega) (g := (mkF m 45 #[.val (.ref a), .val (.ref b), .val (.int (Int32.ofNat o)), .val (.int (Int32.ofNat len)), .val .null, .val (.ref s.heap.size)] [.int (Int32.ofNat N.slots.size), .ref s.heap.size, .ref a])) rfl (by rw [hml]; rfl) c10 (argsL := [.ref s.heap.size, .int (Int32.ofNat N.slots.size)]) (rest := [.ref a]) rfl rfl (by show 2 * 0 + (1 + 0) ≤ _; decide) (hb hbytes d45) (⟨rfl, n1⟩)
  obtain ⟨rfl, q11⟩ := E11
  have hB11 := hB1.mv (X8.warmed.alike.symm.trans X11.warmed.alike) q11
  have c12 : Steps p.tables e below (s₁.setTop (entryFrame m #[.ref a, .ref b, .int (Int32.ofNat o), .int (Int32.ofNat len), .null] 6)) (T11.setTop (mkF m 48 #[.val (.ref a), .val (.ref b), .val (.int (Int32.ofNat o)), .val (.int (Int32.ofNat len)), .val .null, .val (.ref s.heap.size)] [.int 0, .ref a])) := g11
  obtain ⟨T13, X13, p13, bl13, sl13, st13⟩ := X11.finit hexec hown (wk W (.fieldLink "java/lang/String" 15 "java/lang/String" "coder" "B")) (Or.inr ⟨_, (wk W (.laysFinal "java/lang/String" "java/lang/String" "coder" "B"))⟩) (Or.inl ⟨rfl, hnm⟩) f2 (Or.inl rfl) hB11 (t := .byte) (by decide +kernel) rfl (g := (mkF m 48 #[.val (.ref a), .val (.ref b), .val (.int (Int32.ofNat o)), .val (.int (Int32.ofNat len)), .val .null, .val (.ref s.heap.size)] [.int 0, .ref a])) rfl (rest := []) rfl (hb hbytes d48)
  have c14 : Steps p.tables e below (s₁.setTop (entryFrame m #[.ref a, .ref b, .int (Int32.ofNat o), .int (Int32.ofNat len), .null] 6)) (T13.setTop (mkF m 54 #[.val (.ref a), .val (.ref b), .val (.int (Int32.ofNat o)), .val (.int (Int32.ofNat len)), .val .null, .val (.ref s.heap.size)] [.ref s.heap.size, .ref a])) := (c12.trans (st13 _ (Steps.refl _))).trans (by
    refine XS.aloadN X13.here hexec rfl (hb hbytes d51) rfl rfl ?_
    refine XS.aload X13.here hexec rfl (hb hbytes d52) rfl rfl ?_
    exact Steps.refl _)
  obtain ⟨T15, X15, p15, bl15, sl15, st15⟩ := X13.finit hexec hown (wk W (.fieldLink "java/lang/String" 9 "java/lang/String" "value" "[B")) (Or.inr ⟨_, (wk W (.laysFinal "java/lang/String" "java/lang/String" "value" "[B"))⟩) (Or.inl ⟨rfl, hnm⟩) f1 (Or.inl rfl) bl13 (t := (.array .byte)) (by decide +kernel) rfl (g := (mkF m 54 #[.val (.ref a), .val (.ref b), .val (.int (Int32.ofNat o)), .val (.int (Int32.ofNat len)), .val .null, .val (.ref s.heap.size)] [.ref s.heap.size, .ref a])) rfl (rest := []) rfl (hb hbytes d54)
  have c16 : Steps p.tables e below (s₁.setTop (entryFrame m #[.ref a, .ref b, .int (Int32.ofNat o), .int (Int32.ofNat len), .null] 6)) (T15.setTop (mkF m 57 #[.val (.ref a), .val (.ref b), .val (.int (Int32.ofNat o)), .val (.int (Int32.ofNat len)), .val .null, .val (.ref s.heap.size)] [])) := c14.trans (st15 _ (Steps.refl _))
  have ap := apart (Or.inr ⟨_, (wk W (.laysFinal "java/lang/String" "java/lang/String" "value" "[B"))⟩) (Or.inr ⟨_, (wk W (.laysFinal "java/lang/String" "java/lang/String" "coder" "B"))⟩) f1 f2 (t₁ := .array .byte) (t₂ := .byte) (by decide +kernel) (by decide +kernel) (by decide)
  have al := X8.warmed.alike.symm.trans X15.warmed.alike
  have n7 : T11.heap[s.heap.size]? = some N := by rw [q11]; exact n1.1
  exact ⟨T15, none, _, _, _, X15, by simp, rfl, by omega, (fun _ => rfl), ⟨rfl, _, N, bl15, ((Same.refl D _).set _ (by simp)).set _ (by simp), sl15, (Cell.slots_setSlot_ne _ ap).trans sl13, n1.keep al (p15.other hne (p13.other hne n7)), n2, by rw [al.findClass]; exact n3, n4, n5, fun y c h1 h2 => p15.other h1 (p13.other h1 (by rw [q11]; exact n6 y c h2)), by rw [p15.2.2, p13.2.2, q11]; exact z8⟩, fun fs hl => c16.trans (X15.returnOut hexec hret (hb hbytes d57) hl)⟩
end New4
namespace New1
def yN : MethodName := ⟨"java/lang/String", "<init>", "([C)V"⟩
abbrev yB : ByteArray := jdk_42_method_3_code
theorem d0 : decode yB 0 = .ok (.aload_n 0, 1) := by decide +kernel
theorem d1 : decode yB 1 = .ok (.aload_n 1, 1) := by decide +kernel
theorem d2 : decode yB 2 = .ok (.iconst 0, 1) := by decide +kernel
theorem d3 : decode yB 3 = .ok (.aload_n 1, 1) := by decide +kernel
theorem d4 : decode yB 4 = .ok (.arraylength, 1) := by decide +kernel
theorem d5 : decode yB 5 = .ok (.aconst_null, 1) := by decide +kernel
theorem d6 : decode yB 6 = .ok (.invokespecial 27, 3) := by decide +kernel
theorem d9 : decode yB 9 = .ok (.return_, 1) := by decide +kernel
def site : List Cond := [New4.tab] ++ initW "java/lang/String" 27 New4.yN
def tab : Cond := tabOf yN yB 2 none site
def P (a : Addr) (D : Cell) (fV fC : Field) (b : Addr) (A : Cell) (z : Int32) (args : Array Value) (s : State) : Prop := args = #[.ref a, .ref b] ∧ Blank "java/lang/String" a D s ∧ Found "java/lang/String" "value" "[B" fV s ∧ Found "java/lang/String" "coder" "B" fC s ∧ Ch b A s ∧ StaticIs s "java/lang/String" "COMPACT_STRINGS" "Z" (.int z) ∧ ¬ z = 0 ∧ 0 < A.slots.size ∧ A.slots.size ≤ 536870912 ∧ ∀ i, i < A.slots.size → ¬ 255 < cv A i
def E (a : Addr) (D : Cell) (fV fC : Field) (A : Cell) (r : Option Value) (s u : State) : Prop := Got a D fV fC A 0 A.slots.size r s u
/-- new String(chars), not empty, no char above 255: a Latin-1 String of their low bytes -/
theorem law (l : Launch) (a : Addr) (D : Cell) (fV fC : Field) (b : Addr) (A : Cell) (z : Int32) : Law l yN 2 1 3 52 yB 2 none site (P a D fV fC b A z) (E a D fV fC A) [⟨a, fC.slot⟩, ⟨a, fV.slot⟩] 1 A.slots.size := by
  refine Law.of_walk (plainFor_of_name (by decide +kernel)) (by decide +kernel) (by decide +kernel) (by decide) (fun _ _ h => by rw [h.1]; rfl) (fun _ U U' hal hh h => ⟨h.1, h.2.1.mv hal hh, h.2.2.1.al hal, h.2.2.2.1.al hal, h.2.2.2.2.1.mv hal hh, h.2.2.2.2.2.1.there hal hh, h.2.2.2.2.2.2⟩) (fun r U U' V V' h1 hal h2 h => Got.mv r U U' V V' h1 hal h2 h) ?_
  intro p e s m args below meth c s₁ X0 hexec hbytes hml hret hlk hnm hown hh0 W hP
  obtain ⟨rfl, hB, f1, f2, hA, s1, hz, l0, l2, hp⟩ := hP
  have c1 : Steps p.tables e below (s₁.setTop (entryFrame m #[.ref a, .ref b] 2)) (s₁.setTop (mkF m 0 #[.val (.ref a), .val (.ref b)] [])) := entry rfl
  have c2 : Steps p.tables e below (s₁.setTop (entryFrame m #[.ref a, .ref b] 2)) (s₁.setTop (mkF m 6 #[.val (.ref a), .val (.ref b)] [.null, .int (Int32.ofNat A.slots.size), .int 0, .ref b, .ref a])) := c1.trans (by
    refine XS.aloadN X0.here hexec rfl (hb hbytes d0) rfl rfl ?_
    refine XS.aloadN X0.here hexec rfl (hb hbytes d1) rfl rfl ?_
    refine iconstV X0.here hexec rfl 0 (hb hbytes d2) (by decide) ?_
    refine XS.aloadN X0.here hexec rfl (hb hbytes d3) rfl rfl ?_
    refine X0.alen hexec (hA.1.mv X0.warmed.alike hh0) rfl rfl (hb hbytes d4) ?_
    refine XS.aconstNull X0.here hexec rfl (hb hbytes d5) ?_
    exact Steps.refl _)
  obtain ⟨v3, T3, X3, E3, g3⟩ := X0.callN hexec (New4.law l a D fV fC b A z 0 A.slots.size) rfl hown (wks W (initW "java/lang/String" 27 New4.yN)) (W New4.tab (by simp only [site, List.mem_cons, List.mem_append, true_or, or_true])) (W := 0) (Nat.le_of_ble_eq_true rfl) (Nat.le_of_ble_eq_true rfl) (Nat.le_refl _) (by show 0 + A.slots.size ≤ A.slots.size; omega) (g := (mkF m 6 #[.val (.ref a), .val (.ref b)] [.null, .int (Int32.ofNat A.slots.size), .int (Int32.ofNat 0), .ref b, .ref a])) rfl (by rw [hml]; rfl) c2 (argsL := [.ref b, .int (Int32.ofNat 0), .int (Int32.ofNat A.slots.size), .null]) (rest := []) rfl rfl (by show 2 * 0 + 0 ≤ _; decide) (hb hbytes d6) (⟨rfl, hB.mv X0.warmed.alike hh0, f1.al X0.warmed.alike, f2.al X0.warmed.alike, hA.mv X0.warmed.alike hh0, s1.there X0.warmed.alike hh0, hz, l0, by omega, l2, fun i hi => by rw [Nat.zero_add]; exact hp i hi⟩)
  have e0 := Got.mv _ s₁ s _ _ hh0.symm (Vm.Alike.refl _) rfl E3
  obtain rfl := e0.1
  have c4 : Steps p.tables e below (s₁.setTop (entryFrame m #[.ref a, .ref b] 2)) (T3.setTop (mkF m 9 #[.val (.ref a), .val (.ref b)] [])) := g3
  exact ⟨T3, none, _, _, _, X3, by simp, rfl, by omega, (fun _ => rfl), e0, fun fs hl => c4.trans (X3.returnOut hexec hret (hb hbytes d9) hl)⟩
theorem pays {l : Launch} {R : Room} {p : Program} {e : Env} {below : List Frame} {s : State} {sargs : Array Value} {len W : Nat} (a : Addr) (D : Cell) (fV fC : Field) (b : Addr) (A : Cell) (z : Int32) (htab : tab.before sargs s = true) (hfr : 4 ≤ R.frames) (hlo : W + 65 ≤ R.locals) :
    Back l R p e below s sargs yN len W (fun A₁ a₁ => A₁.cells + 1 ≤ R.cells ∧ A₁.slots + A.slots.size ≤ R.slots ∧ P a D fV fC b A z a₁ A₁.U) (fun A₁ _ v₁ B₁ => E a D fV fC A v₁ A₁.U B₁.U ∧ B₁.locs = A₁.locs ++ [⟨a, fC.slot⟩, ⟨a, fV.slot⟩] ∧ B₁.cells = A₁.cells + 1 ∧ B₁.slots = A₁.slots + A.slots.size) :=
  (law l a D fV fC b A z).pays htab hfr (by omega)
end New1
end StrChars
namespace StrChars.Road
open Jvm Sem ClassFile Op Lib Jvm.Stand Jvm.Free Jvm.Free.XT
open Jvm.Lib.Cold (StaticIs)
abbrev ST : String := "java/lang/String"
/-- every table word that New1's law asks, flat -/
abbrev words : List Jvm.Cond := [.code New1.yN New1.yB 2 none, .initialized ST, .methodLink ST 27 New4.yN, .instanceMethod New4.yN,
  .code New4.yN New4.yB 6 none, .fieldLink ST 38 ST "COMPACT_STRINGS" "Z", .laysFinal ST ST "value" "[B", .fieldLink ST 9 ST "value" "[B", .laysFinal ST ST "coder" "B", .fieldLink ST 15 ST "coder" "B",
  .methodLink ST 1 Lib.objectInit, .instanceMethod Lib.objectInit, .code Lib.objectInit ⟨#[0xb1]⟩ 1 none, .methodLink ST 177 Cmp3.yN, .static Cmp3.yN, .methodLink ST 47 CodL.yN, .static CodL.yN,
  .code Cmp3.yN Cmp3.yB 6 (some (.array .byte)), .initialized U16, .arrayClass .byte, .methodLink U16 115 Cmp5.yN, .static Cmp5.yN, .code Cmp5.yN Cmp5.yB 7 (some .int), .code CodL.yN CodL.yB 2 (some .byte)]
theorem tab_of {a : Array Value} {s : State} (h : ∀ w ∈ words, w.before a s = true) : New1.tab.before a s = true := by
  have h5 : Cmp5.tab.before a s = true := unparts (wk h (.code Cmp5.yN Cmp5.yB 7 (some .int))) (wks h (.initialized Cmp5.yN.cls :: Cmp5.site))
  have hc : CodL.tab.before a s = true := unparts (wk h (.code CodL.yN CodL.yB 2 (some .byte))) (wks h (.initialized CodL.yN.cls :: CodL.site))
  have q5 : ∀ w ∈ Cmp5.tab :: words, w.before a s = true := fun w hw => (List.mem_cons.mp hw).elim (fun e => e ▸ h5) (h w)
  have h3 : Cmp3.tab.before a s = true := unparts (wk q5 (.code Cmp3.yN Cmp3.yB 6 (some (.array .byte)))) (wks q5 (.initialized Cmp3.yN.cls :: Cmp3.site))
  have q3 : ∀ w ∈ Cmp3.tab :: CodL.tab :: words, w.before a s = true := fun w hw => (List.mem_cons.mp hw).elim (fun e => e ▸ h3) fun hw => (List.mem_cons.mp hw).elim (fun e => e ▸ hc) (h w)
  have h4 : New4.tab.before a s = true := unparts (wk q3 (.code New4.yN New4.yB 6 none)) (wks q3 (.initialized New4.yN.cls :: New4.site))
  have q4 : ∀ w ∈ New4.tab :: words, w.before a s = true := fun w hw => (List.mem_cons.mp hw).elim (fun e => e ▸ h4) (h w)
  exact unparts (wk q4 (.code New1.yN New1.yB 2 none)) (wks q4 (.initialized New1.yN.cls :: New1.site))
/-- the words ride from the start Z to the walk's own state -/
theorem moved {Z s : State} {a0 args : Array Value} (hZ : Z.Warmed39 s.vm) (hw : ∀ d ∈ words, d.before a0 Z = true) : ∀ d ∈ words, d.before args s = true := fun d hd => by
  have q := hw d hd
  have t : ∀ d ∈ words, d = .arrayClass .byte ∨ (d.onTables && d.keepsFace) = true := by decide +kernel
  rcases t d hd with rfl | t
  · exact RoadKit.mvA hZ q
  · exact RoadKit.mv hZ q t
/-- WHAT COMES BACK, over the tables of the start Z: h the heap at the call, h' behind it -/
def Q (Z : State) (x : Addr) (A : Cell) (h : Heap) (v : Option Value) (h' : Heap) (L : List Loc) : Prop := v = none ∧ (∀ y ∈ L, y.base = x) ∧ RoadKit.Keep h h' [x] ∧ h'.size = h.size + 1 ∧ RoadKit.Exa Z h' x ST ∧ RoadKit.Fld Z h' x ST "value" "[B" (.ref h.size) ∧ RoadKit.Fld Z h' x ST "coder" "B" (.int 0) ∧
  (∃ V : Cell, RoadKit.Arr Z h' h.size V .byte ∧ V.vm = .none ∧ Z.vm.findClass "[B" = some V.cls ∧ V.slots.size = A.slots.size ∧ ∀ j, j < A.slots.size → V.slots[j]? = some (.int (lo8 (cv A j)))) ∧
  ∀ (O n d : String) (w : Value), RoadKit.Fld Z h x O n d w → RoadKit.slotOf Z O n d ≠ RoadKit.slotOf Z ST "value" "[B" → RoadKit.slotOf Z O n d ≠ RoadKit.slotOf Z ST "coder" "B" → RoadKit.Fld Z h' x O n d w
/-- **new String(chars) AT A CALL, IN THE ROAD'S FORM**: for specialBack behind newO: x the fresh String, b the char[] with the cell A -/
theorem back {p : Program} {l : Launch} {e : Env} {R : Room} {s : State} {args : Array Value} {below : List Frame} {len W : Nat} {Z : State} {a0 : Array Value} {h : Heap} (hZ : Z.Warmed39 s.vm) (hw : ∀ d ∈ words, d.before a0 Z = true) {kI : Nat} (wi : (Jvm.Cond.instantiable ST kI).before a0 Z = true)
    {x b : Addr} {A : Cell} {z : Int32} {v0 c0 : Value} (E : RoadKit.Exa Z h x ST) (V : RoadKit.Fld Z h x ST "value" "[B" v0) (C : RoadKit.Fld Z h x ST "coder" "B" c0) (K : RoadKit.Arr Z h b A .char) (hty : Typed .char A) (S : RoadKit.Sta Z h ST "COMPACT_STRINGS" "Z" (.int z)) (hz : ¬ z = 0)
    (l0 : 0 < A.slots.size) (l2 : A.slots.size ≤ 536870912) (hp : ∀ i, i < A.slots.size → ¬ 255 < cv A i) (hfr : 4 ≤ R.frames) (hlo : W + 65 ≤ R.locals) :
    Back l R p e below s args New1.yN len W (fun P a => a = #[.ref x, .ref b] ∧ P.U.heap = h ∧ P.cells + 1 ≤ R.cells ∧ P.slots + A.slots.size ≤ R.slots)
      (fun P _ v B => ∃ L, Q Z x A h v B.U.heap L ∧ B.locs = P.locs ++ L ∧ B.cells = P.cells + 1 ∧ B.slots = P.slots + A.slots.size) := by
  intro m meth c P g ig mk a X hg hsize hdg hW hn hp'
  obtain ⟨rfl, rfl, r1, r2⟩ := hp'
  have al : Z.vm.Alike P.U.vm := hZ.alike.trans X.warmed.alike
  obtain ⟨D, cfV, kV, iV, fV, hD, gV, stV, knV, obV, asV, slV⟩ := id V
  obtain ⟨D', cfC, kC, iC, fC, hD', gC, stC, -, -, asC, slC⟩ := id C
  cases hD.symm.trans hD'
  obtain ⟨D2, kD, e1, e2, e3, e4, e5⟩ := id E
  cases hD.symm.trans e1
  obtain ⟨c2, k2, i1, i2, i3, -⟩ := Cond.instantiable_spec wi
  cases e2.symm.trans i1
  cases e3.symm.trans i2
  obtain ⟨kU, u1, u2⟩ := al.2.2 _ _ e3
  have hB : Blank ST x D P.U := ⟨hD, ⟨knV, fun q hq => by rw [hq] at obV; cases obV⟩, by rw [al.findClass]; exact e2, kU, u1, by rw [u2]; exact i3, by rw [u2]; exact e5 i3⟩
  have F1 : Found ST "value" "[B" fV P.U := ⟨SBG.found_only al ⟨cfV, kV, iV, gV⟩, stV⟩
  have F2 : Found ST "coder" "B" fC P.U := ⟨SBG.found_only al ⟨cfC, kC, iC, gC⟩, stC⟩
  have hA : Ch b A P.U := ⟨⟨K.1, State.isArrayOf_alike al K.2.1, K.2.2, by omega⟩, hty⟩
  have hS : StaticIs P.U ST "COMPACT_STRINGS" "Z" (.int z) := by
    obtain ⟨cfS, iS, kS, fS, st, cS, t1, t2, t3, t4, t5, t6, t7⟩ := S
    exact StaticIs.there (s := { Z with heap := P.U.heap }) ⟨cfS, iS, kS, fS, st, cS, t1, t2, t3, t4, t5, (fun q => by rw [q] at t6; cases t6), t7⟩ al rfl
  obtain ⟨v, B, X', ⟨⟨hv, E', V', q1, q2, q3, q4, q5, q6, q7, q8, q9, q10, q11⟩, hl, hc, hs⟩, st⟩ := New1.pays x D fV fC b A z (tab_of (moved hZ hw)) hfr hlo m meth c P g ig mk _ X hg hsize hdg hW hn ⟨r1, r2, rfl, hB, F1, F2, hA, hS, hz, l0, l2, hp⟩
  have al' : Z.vm.Alike B.U.vm := hZ.alike.trans X'.warmed.alike
  have hsz : E'.slots.size = D.slots.size := by
    obtain ⟨-, -, -, kB, w1, w2, w3⟩ := q1
    obtain ⟨kB', y1, y2⟩ := al'.2.2 _ _ e3
    rw [q2.2.1] at w1
    cases w1.symm.trans y1
    rw [w3, e5 i3, y2]
  refine ⟨v, B, X', ⟨_, ⟨hv, ?_, ⟨by omega, fun y cy hy hn' => q10 y cy (by simpa using hn') hy, fun y cy hy => ?_⟩, q11, ⟨E', _, q1.1, by rw [q2.2.1]; exact e2, by rw [q2.2.1]; exact e3, by rw [q2.1]; exact obV, fun _ => by rw [hsz]; exact e5 i3⟩,
    ⟨E', cfV, kV, iV, fV, q1.1, gV, stV, by rw [q2.1]; exact knV, by rw [q2.1]; exact obV, by rw [q2.2.1]; exact asV, q3⟩, ⟨E', cfC, kC, iC, fC, q1.1, gC, stC, by rw [q2.1]; exact knV, by rw [q2.1]; exact obV, by rw [q2.2.1]; exact asC, q4⟩,
    ⟨V', ⟨q5.1, State.isArrayOf_alike al'.symm q5.2.1, q5.2.2.1⟩, q6, by rw [← al'.findClass]; exact q7, q8, fun j hj => by have := q9 j hj; rwa [Nat.zero_add] at this⟩, fun O n d w F n1 n2 => ?_⟩, hl, hc, hs⟩, st⟩
  · intro y hy
    simp only [List.mem_cons, List.not_mem_nil, or_false] at hy
    rcases hy with rfl | rfl <;> rfl
  · by_cases q : y = x
    · subst q
      cases hD.symm.trans hy
      exact ⟨E', q1.1, q2.2.1, q2.1, hsz⟩
    · exact ⟨cy, q10 y cy q hy, rfl, rfl, rfl⟩
  · obtain ⟨D3, cf, k, i, f, g1, g2, g3, g4, g5, g6, g7⟩ := F
    cases hD.symm.trans g1
    simp only [RoadKit.slotOf, g2, gV, gC, Option.map_some, Option.getD_some] at n1 n2
    exact ⟨E', cf, k, i, f, q1.1, g2, g3, by rw [q2.1]; exact g4, by rw [q2.1]; exact g5, by rw [q2.2.1]; exact g6, by rw [q2.2.2 f.slot (by simp [n1, n2])]; exact g7⟩
end StrChars.Road
namespace StrChars.Road
open Jvm Sem ClassFile Op Lib Jvm.Stand Jvm.Free Jvm.Free.XT
/-- WHAT COMES BACK, the byte[] as a list of values -/
def QA (Z : State) (x : Addr) (zn : Int32) (cs : List Int32) (h : Heap) (v : Option Value) (h' : Heap) (L : List Loc) : Prop := v = none ∧ (∀ y ∈ L, y.base = x) ∧ RoadKit.Keep h h' [x] ∧ h'.size = h.size + 1 ∧ RoadKit.Exa Z h' x ST ∧ RoadKit.Fld Z h' x ST "value" "[B" (.ref h.size) ∧ RoadKit.Fld Z h' x ST "coder" "B" (.int 0) ∧
  (∃ kb, Z.vm.findClass "[B" = some kb ∧ RoadKit.Arv Z h' h.size kb .byte zn (cs.map fun c => .int (lo8 c)) (.int 0)) ∧
  ∀ (O n d : String) (w : Value), RoadKit.Fld Z h x O n d w → RoadKit.slotOf Z O n d ≠ RoadKit.slotOf Z ST "value" "[B" → RoadKit.slotOf Z O n d ≠ RoadKit.slotOf Z ST "coder" "B" → RoadKit.Fld Z h' x O n d w
/-- **new String(chars) AT A CALL, THE ARRAYS AS LISTS**: the char[] at b holds cs, not empty, no char above 255 -/
theorem backArv {p : Program} {l : Launch} {e : Env} {R : Room} {s : State} {args : Array Value} {below : List Frame} {len W : Nat} {Z : State} {a0 : Array Value} {h : Heap} (hZ : Z.Warmed39 s.vm) (hw : ∀ d ∈ words, d.before a0 Z = true) {kI : Nat} (wi : (Jvm.Cond.instantiable ST kI).before a0 Z = true)
    {x b : Addr} {k : ClassId} {zn z : Int32} {cs : List Int32} {dv v0 c0 : Value} (E : RoadKit.Exa Z h x ST) (V : RoadKit.Fld Z h x ST "value" "[B" v0) (C : RoadKit.Fld Z h x ST "coder" "B" c0) (K : RoadKit.Arv Z h b k .char zn (cs.map Value.int) dv) (S : RoadKit.Sta Z h ST "COMPACT_STRINGS" "Z" (.int z)) (hz : ¬ z = 0)
    (hlen : zn.toNatClampNeg = cs.length) (h0 : 0 < cs.length) (hbig : cs.length ≤ 536870912) (hall : ∀ c ∈ cs, ¬ 255 < c) (hfr : 4 ≤ R.frames) (hlo : W + 65 ≤ R.locals) :
    Back l R p e below s args New1.yN len W (fun P a => a = #[.ref x, .ref b] ∧ P.U.heap = h ∧ P.cells + 1 ≤ R.cells ∧ P.slots + cs.length ≤ R.slots)
      (fun P _ v B => ∃ L, QA Z x zn cs h v B.U.heap L ∧ B.locs = P.locs ++ L ∧ B.cells = P.cells + 1 ∧ B.slots = P.slots + cs.length) := by
  obtain ⟨A, K1, K2, K3, K4, K5, K6⟩ := K
  have e : A.slots.size = cs.length := K3.trans hlen
  have hat : ∀ (i : Nat) (hi : i < cs.length), A.slots[i]? = some (.int cs[i]) := fun i hi => by rw [K5 i (by omega)]; simp [List.getD_eq_getElem?_getD, hi]
  have hcv : ∀ (i : Nat) (hi : i < cs.length), cv A i = cs[i] := fun i hi => by unfold cv; rw [hat i hi]
  have hty : Typed .char A := fun i v hv => by
    have hi : i < A.slots.size := (Array.getElem?_eq_some_iff.mp hv).1
    have q := K5 i hi
    rw [hv] at q
    rw [Option.some.inj q]
    exact K6 i hi
  refine Back.mono (back hZ hw wi E V C K1 hty S hz (by omega) (by omega) (fun i hi => by rw [hcv i (by omega)]; exact hall _ (List.getElem_mem _)) hfr hlo) (fun P a hp => ⟨hp.1, hp.2.1, hp.2.2.1, by rw [e]; exact hp.2.2.2⟩) (fun P a v B hp hq => ?_)
  obtain ⟨L, ⟨q1, q2, q3, q4, q5, q6, q7, ⟨V', v1, v2, v3, v4, v5⟩, q9⟩, hl, hc, hs⟩ := hq
  refine ⟨L, ⟨q1, q2, q3, q4, q5, q6, q7, ⟨V'.cls, v3, V', v1, rfl, by rw [v4, e, hlen], K4, fun i hi => ?_, fun i hi => ?_⟩, q9⟩, hl, hc, by rw [hs, e]⟩
  · have hi' : i < cs.length := by omega
    rw [v5 i (by omega), hcv i hi']; simp [List.getD_eq_getElem?_getD, hi']
  · have hi' : i < cs.length := by omega
    simp only [List.getD_eq_getElem?_getD, List.getElem?_map, List.getElem?_eq_getElem hi', Option.map_some, Option.getD_some]
    exact fits_lo8 _
end StrChars.Road
namespace StrChars.Road
open Jvm Sem ClassFile Op Lib Jvm.Stand Jvm.Free Jvm.Free.XT
/-- WHAT COMES BACK, in the writer's own shape -/
def QV (Z : State) (x : Addr) (N : Int32) (bs : List Int32) (h : Heap) (n0 : Nat) (v : Option Value) (h' : Heap) (L : List Loc) : Prop := v = none ∧ RoadKit.Fr n0 L ∧ RoadKit.Keep h h' [x] ∧ RoadKit.Exa Z h' x ST ∧ RoadKit.Fld Z h' x ST "coder" "B" (.int 0) ∧
  ∃ (t : Addr) (kb : ClassId), n0 ≤ t ∧ h.size ≤ t ∧ ¬ t = x ∧ RoadKit.Fld Z h' x ST "value" "[B" (.ref t) ∧ RoadKit.Arv Z h' t kb .byte N (bs.map Value.int) (.int 0)
/-- **new String(chars) AT A CALL, FOR THE WRITER**: a char[] of n known ints, each 0 to 255 -/
theorem backV {p : Program} {l : Launch} {e : Env} {R : Room} {s : State} {args : Array Value} {below : List Frame} {len W : Nat} {Z : State} {a0 : Array Value} {h : Heap} (hZ : Z.Warmed39 s.vm) (hw : ∀ d ∈ words, d.before a0 Z = true) {kI : Nat} (wi : (Jvm.Cond.instantiable ST kI).before a0 Z = true)
    {x b : Addr} {kC : ClassId} {cs bs : List Int32} {d v0 c0 : Value} {z N : Int32} {n n0 : Nat} (hx0 : n0 ≤ x) (hh0 : n0 ≤ h.size) (E : RoadKit.Exa Z h x ST) (V : RoadKit.Fld Z h x ST "value" "[B" v0) (C : RoadKit.Fld Z h x ST "coder" "B" c0) (K : RoadKit.Arv Z h b kC .char N (cs.map Value.int) d) (S : RoadKit.Sta Z h ST "COMPACT_STRINGS" "Z" (.int z)) (hz : ¬ z = 0)
    (hn : cs.length = n) (hN : N = Int32.ofNat n) (l0 : 0 < n) (l2 : n ≤ 4000) (hp : ∀ c ∈ cs, ¬ c < 0 ∧ ¬ (255 : Int32) < c) (hb : bs = cs.map (fun c => c.toInt8.toInt32)) (hfr : 4 ≤ R.frames) (hlo : W + 65 ≤ R.locals) :
    Back l R p e below s args (⟨"java/lang/String", "<init>", "([C)V"⟩ : MethodName) len W (fun P a => a = #[.ref x, .ref b] ∧ P.U.heap = h ∧ P.cells + 1 ≤ R.cells ∧ P.slots + n ≤ R.slots)
      (fun P _ v B => ∃ L, QV Z x N bs h n0 v B.U.heap L ∧ B.locs = P.locs ++ L ∧ B.cells = P.cells + 1 ∧ B.slots = P.slots + n) := by
  subst hn hN hb
  refine Back.mono (backArv hZ hw wi E V C K S hz (n32 (by omega)) l0 (by omega) (fun c hc => (hp c hc).2) hfr hlo) (fun P a hp => hp) (fun P a v B hp hq => ?_)
  obtain ⟨L, ⟨q1, q2, q3, q4, q5, q6, q7, ⟨kb, v1, v2⟩, q9⟩, hl, hc, hs⟩ := hq
  exact ⟨L, ⟨q1, fun y hy => by rw [q2 y hy]; exact hx0, q3, q5, q7, h.size, kb, hh0, Nat.le_refl _, Nat.ne_of_gt E.lt, q6, by rw [List.map_map]; exact v2⟩, hl, hc, hs⟩
end StrChars.Road
end Jvm.Pilot.@@N@@

namespace Jvm.Pilot.@@N@@
open Jvm Jvm.ClassFile Sem Op Lib Jvm.Free Jvm.Stand Jvm.LawKit Jvm.RoadKit Bundle Jvm.OwnW Jvm.Pilot.@@N@@.Jvm.D
abbrev mem1 (x0 : Addr) (x1 : Addr) (x2 : Addr) (x3 : Int32) : Mem := [ob x0 "java/lang/String" [("java/lang/String", "value", "[B", (.ref x1)), ("java/lang/String", "coder", "B", (.int (0 : Int32)))], ar x2 .char [(.int (nar .char ((x3 &&& (255 : Int32)).toUInt32.toUInt16.toUInt32.toInt32))), (.int (nar .char ((((x3.toUInt32 >>> ((8 : Int32) &&& 31).toUInt32).toInt32) &&& (255 : Int32)).toUInt32.toUInt16.toUInt32.toInt32))), (.int (nar .char ((((x3.toUInt32 >>> ((16 : Int32) &&& 31).toUInt32).toInt32) &&& (255 : Int32)).toUInt32.toUInt16.toUInt32.toInt32)))]]
abbrev mem2 (x0 : Addr) (x1 : Addr) (x2 : Addr) (x3 : Int32) (x4 : Int32) : Mem := [ob x0 "java/lang/String" [("java/lang/String", "value", "[B", (.ref x1)), ("java/lang/String", "coder", "B", (.int (0 : Int32)))], ar x2 .char [(.int x3), (.int (nar .char ((((x4.toUInt32 >>> ((8 : Int32) &&& 31).toUInt32).toInt32) &&& (255 : Int32)).toUInt32.toUInt16.toUInt32.toInt32))), (.int (nar .char ((((x4.toUInt32 >>> ((16 : Int32) &&& 31).toUInt32).toInt32) &&& (255 : Int32)).toUInt32.toUInt16.toUInt32.toInt32)))]]
abbrev mem3 (x0 : Addr) (x1 : Addr) (x2 : Addr) (x3 : Int32) (x4 : Int32) (x5 : Int32) (x6 : Addr) (x7 : Addr) : Mem := [ob x0 "java/lang/String" [("java/lang/String", "value", "[B", (.ref x1)), ("java/lang/String", "coder", "B", (.int (0 : Int32)))], ar x2 .char [(.int x3), (.int x4), (.int x5)], ob x6 "java/lang/String" [("java/lang/String", "value", "[B", (.ref x7)), ("java/lang/String", "coder", "B", (.int (0 : Int32)))], ar x7 .byte [(.int (x3.toInt8.toInt32)), (.int (x4.toInt8.toInt32)), (.int (x5.toInt8.toInt32))]]
abbrev mem4 (x0 : Addr) (x1 : Addr) (x2 : Addr) (x3 : Addr) (x4 : Addr) : Mem := [ob x0 "java/lang/String" [("java/lang/String", "value", "[B", (.ref x1)), ("java/lang/String", "coder", "B", (.int (0 : Int32)))], ob x2 "java/lang/String" [("java/lang/String", "value", "[B", (.ref x3)), ("java/lang/String", "coder", "B", (.int (0 : Int32)))], ob x4 "com/example/layered_locks/layeredlocks/AloneLocks" [("com/example/layered_locks/layeredlocks/AloneLocks", "paths", "[Ljava/lang/String;", .null), ("com/example/layered_locks/layeredlocks/AloneLocks", "lengths", "[I", .null), ("com/example/layered_locks/layeredlocks/AloneLocks", "modes", "[Lcom/example/layered_locks/layeredlocks/LockMode;", .null), ("com/example/layered_locks/layeredlocks/AloneLocks", "owner", "[Ljava/lang/Object;", .null), ("com/example/layered_locks/layeredlocks/AloneLocks", "latch", "Lcom/example/layered_locks/layeredlocks/Latch;", .null), ("com/example/layered_locks/layeredlocks/AloneLocks", "size", "I", (.int (0 : Int32)))]]
abbrev mem5 (x0 : Addr) (x1 : Addr) (x2 : Addr) (x3 : Addr) (x4 : Addr) : Mem := [ob x0 "com/example/layered_locks/layeredlocks/AloneLocks" [("com/example/layered_locks/layeredlocks/AloneLocks", "paths", "[Ljava/lang/String;", .null), ("com/example/layered_locks/layeredlocks/AloneLocks", "lengths", "[I", .null), ("com/example/layered_locks/layeredlocks/AloneLocks", "modes", "[Lcom/example/layered_locks/layeredlocks/LockMode;", .null), ("com/example/layered_locks/layeredlocks/AloneLocks", "owner", "[Ljava/lang/Object;", .null), ("com/example/layered_locks/layeredlocks/AloneLocks", "latch", "Lcom/example/layered_locks/layeredlocks/Latch;", .null), ("com/example/layered_locks/layeredlocks/AloneLocks", "size", "I", (.int (0 : Int32)))], ob x1 "java/lang/String" [("java/lang/String", "value", "[B", (.ref x2)), ("java/lang/String", "coder", "B", (.int (0 : Int32)))], ob x3 "java/lang/String" [("java/lang/String", "value", "[B", (.ref x4)), ("java/lang/String", "coder", "B", (.int (0 : Int32)))]]
abbrev mem6 (x0 : Addr) : Mem := [ob x0 "com/example/layered_locks/layeredlocks/AloneLocks" [("com/example/layered_locks/layeredlocks/AloneLocks", "paths", "[Ljava/lang/String;", .null), ("com/example/layered_locks/layeredlocks/AloneLocks", "lengths", "[I", .null), ("com/example/layered_locks/layeredlocks/AloneLocks", "modes", "[Lcom/example/layered_locks/layeredlocks/LockMode;", .null), ("com/example/layered_locks/layeredlocks/AloneLocks", "owner", "[Ljava/lang/Object;", .null), ("com/example/layered_locks/layeredlocks/AloneLocks", "latch", "Lcom/example/layered_locks/layeredlocks/Latch;", .null), ("com/example/layered_locks/layeredlocks/AloneLocks", "size", "I", (.int (0 : Int32)))]]
abbrev mem7 (x0 : Addr) (x1 : Addr) : Mem := [ob x0 "com/example/layered_locks/layeredlocks/AloneLocks" [("com/example/layered_locks/layeredlocks/AloneLocks", "paths", "[Ljava/lang/String;", .null), ("com/example/layered_locks/layeredlocks/AloneLocks", "lengths", "[I", .null), ("com/example/layered_locks/layeredlocks/AloneLocks", "modes", "[Lcom/example/layered_locks/layeredlocks/LockMode;", .null), ("com/example/layered_locks/layeredlocks/AloneLocks", "owner", "[Ljava/lang/Object;", .null), ("com/example/layered_locks/layeredlocks/AloneLocks", "latch", "Lcom/example/layered_locks/layeredlocks/Latch;", .null), ("com/example/layered_locks/layeredlocks/AloneLocks", "size", "I", (.int (0 : Int32)))], ar x1 (.object "java/lang/String") [.null, .null, .null, .null, .null, .null, .null, .null, .null, .null, .null, .null, .null, .null, .null, .null]]
abbrev mem8 (x0 : Addr) (x1 : Addr) : Mem := [ob x0 "com/example/layered_locks/layeredlocks/AloneLocks" [("com/example/layered_locks/layeredlocks/AloneLocks", "paths", "[Ljava/lang/String;", (.ref x1)), ("com/example/layered_locks/layeredlocks/AloneLocks", "lengths", "[I", .null), ("com/example/layered_locks/layeredlocks/AloneLocks", "modes", "[Lcom/example/layered_locks/layeredlocks/LockMode;", .null), ("com/example/layered_locks/layeredlocks/AloneLocks", "owner", "[Ljava/lang/Object;", .null), ("com/example/layered_locks/layeredlocks/AloneLocks", "latch", "Lcom/example/layered_locks/layeredlocks/Latch;", .null), ("com/example/layered_locks/layeredlocks/AloneLocks", "size", "I", (.int (0 : Int32)))], ar x1 (.object "java/lang/String") [.null, .null, .null, .null, .null, .null, .null, .null, .null, .null, .null, .null, .null, .null, .null, .null]]
abbrev mem9 (x0 : Addr) (x1 : Addr) (x2 : Addr) : Mem := [ob x0 "com/example/layered_locks/layeredlocks/AloneLocks" [("com/example/layered_locks/layeredlocks/AloneLocks", "paths", "[Ljava/lang/String;", (.ref x1)), ("com/example/layered_locks/layeredlocks/AloneLocks", "lengths", "[I", .null), ("com/example/layered_locks/layeredlocks/AloneLocks", "modes", "[Lcom/example/layered_locks/layeredlocks/LockMode;", .null), ("com/example/layered_locks/layeredlocks/AloneLocks", "owner", "[Ljava/lang/Object;", .null), ("com/example/layered_locks/layeredlocks/AloneLocks", "latch", "Lcom/example/layered_locks/layeredlocks/Latch;", .null), ("com/example/layered_locks/layeredlocks/AloneLocks", "size", "I", (.int (0 : Int32)))], ar x1 (.object "java/lang/String") [.null, .null, .null, .null, .null, .null, .null, .null, .null, .null, .null, .null, .null, .null, .null, .null], ar x2 .int [(.int (0 : Int32)), (.int (0 : Int32)), (.int (0 : Int32)), (.int (0 : Int32)), (.int (0 : Int32)), (.int (0 : Int32)), (.int (0 : Int32)), (.int (0 : Int32)), (.int (0 : Int32)), (.int (0 : Int32)), (.int (0 : Int32)), (.int (0 : Int32)), (.int (0 : Int32)), (.int (0 : Int32)), (.int (0 : Int32)), (.int (0 : Int32))]]
abbrev mem10 (x0 : Addr) (x1 : Addr) (x2 : Addr) : Mem := [ob x0 "com/example/layered_locks/layeredlocks/AloneLocks" [("com/example/layered_locks/layeredlocks/AloneLocks", "paths", "[Ljava/lang/String;", (.ref x1)), ("com/example/layered_locks/layeredlocks/AloneLocks", "lengths", "[I", (.ref x2)), ("com/example/layered_locks/layeredlocks/AloneLocks", "modes", "[Lcom/example/layered_locks/layeredlocks/LockMode;", .null), ("com/example/layered_locks/layeredlocks/AloneLocks", "owner", "[Ljava/lang/Object;", .null), ("com/example/layered_locks/layeredlocks/AloneLocks", "latch", "Lcom/example/layered_locks/layeredlocks/Latch;", .null), ("com/example/layered_locks/layeredlocks/AloneLocks", "size", "I", (.int (0 : Int32)))], ar x1 (.object "java/lang/String") [.null, .null, .null, .null, .null, .null, .null, .null, .null, .null, .null, .null, .null, .null, .null, .null], ar x2 .int [(.int (0 : Int32)), (.int (0 : Int32)), (.int (0 : Int32)), (.int (0 : Int32)), (.int (0 : Int32)), (.int (0 : Int32)), (.int (0 : Int32)), (.int (0 : Int32)), (.int (0 : Int32)), (.int (0 : Int32)), (.int (0 : Int32)), (.int (0 : Int32)), (.int (0 : Int32)), (.int (0 : Int32)), (.int (0 : Int32)), (.int (0 : Int32))]]
abbrev mem11 (x0 : Addr) (x1 : Addr) (x2 : Addr) (x3 : Addr) : Mem := [ob x0 "com/example/layered_locks/layeredlocks/AloneLocks" [("com/example/layered_locks/layeredlocks/AloneLocks", "paths", "[Ljava/lang/String;", (.ref x1)), ("com/example/layered_locks/layeredlocks/AloneLocks", "lengths", "[I", (.ref x2)), ("com/example/layered_locks/layeredlocks/AloneLocks", "modes", "[Lcom/example/layered_locks/layeredlocks/LockMode;", .null), ("com/example/layered_locks/layeredlocks/AloneLocks", "owner", "[Ljava/lang/Object;", .null), ("com/example/layered_locks/layeredlocks/AloneLocks", "latch", "Lcom/example/layered_locks/layeredlocks/Latch;", .null), ("com/example/layered_locks/layeredlocks/AloneLocks", "size", "I", (.int (0 : Int32)))], ar x1 (.object "java/lang/String") [.null, .null, .null, .null, .null, .null, .null, .null, .null, .null, .null, .null, .null, .null, .null, .null], ar x2 .int [(.int (0 : Int32)), (.int (0 : Int32)), (.int (0 : Int32)), (.int (0 : Int32)), (.int (0 : Int32)), (.int (0 : Int32)), (.int (0 : Int32)), (.int (0 : Int32)), (.int (0 : Int32)), (.int (0 : Int32)), (.int (0 : Int32)), (.int (0 : Int32)), (.int (0 : Int32)), (.int (0 : Int32)), (.int (0 : Int32)), (.int (0 : Int32))], ar x3 (.object "com/example/layered_locks/layeredlocks/LockMode") [.null, .null, .null, .null, .null, .null, .null, .null, .null, .null, .null, .null, .null, .null, .null, .null]]
abbrev mem12 (x0 : Addr) (x1 : Addr) (x2 : Addr) (x3 : Addr) : Mem := [ob x0 "com/example/layered_locks/layeredlocks/AloneLocks" [("com/example/layered_locks/layeredlocks/AloneLocks", "paths", "[Ljava/lang/String;", (.ref x1)), ("com/example/layered_locks/layeredlocks/AloneLocks", "lengths", "[I", (.ref x2)), ("com/example/layered_locks/layeredlocks/AloneLocks", "modes", "[Lcom/example/layered_locks/layeredlocks/LockMode;", (.ref x3)), ("com/example/layered_locks/layeredlocks/AloneLocks", "owner", "[Ljava/lang/Object;", .null), ("com/example/layered_locks/layeredlocks/AloneLocks", "latch", "Lcom/example/layered_locks/layeredlocks/Latch;", .null), ("com/example/layered_locks/layeredlocks/AloneLocks", "size", "I", (.int (0 : Int32)))], ar x1 (.object "java/lang/String") [.null, .null, .null, .null, .null, .null, .null, .null, .null, .null, .null, .null, .null, .null, .null, .null], ar x2 .int [(.int (0 : Int32)), (.int (0 : Int32)), (.int (0 : Int32)), (.int (0 : Int32)), (.int (0 : Int32)), (.int (0 : Int32)), (.int (0 : Int32)), (.int (0 : Int32)), (.int (0 : Int32)), (.int (0 : Int32)), (.int (0 : Int32)), (.int (0 : Int32)), (.int (0 : Int32)), (.int (0 : Int32)), (.int (0 : Int32)), (.int (0 : Int32))], ar x3 (.object "com/example/layered_locks/layeredlocks/LockMode") [.null, .null, .null, .null, .null, .null, .null, .null, .null, .null, .null, .null, .null, .null, .null, .null]]
abbrev mem13 (x0 : Addr) (x1 : Addr) (x2 : Addr) (x3 : Addr) (x4 : Addr) : Mem := [ar x0 (.object "java/lang/Object") [.null, .null, .null, .null, .null, .null, .null, .null, .null, .null, .null, .null, .null, .null, .null, .null, .null, .null, .null, .null, .null, .null, .null, .null, .null, .null, .null, .null, .null, .null, .null, .null, .null], ob x1 "com/example/layered_locks/layeredlocks/AloneLocks" [("com/example/layered_locks/layeredlocks/AloneLocks", "paths", "[Ljava/lang/String;", (.ref x2)), ("com/example/layered_locks/layeredlocks/AloneLocks", "lengths", "[I", (.ref x3)), ("com/example/layered_locks/layeredlocks/AloneLocks", "modes", "[Lcom/example/layered_locks/layeredlocks/LockMode;", (.ref x4)), ("com/example/layered_locks/layeredlocks/AloneLocks", "owner", "[Ljava/lang/Object;", .null), ("com/example/layered_locks/layeredlocks/AloneLocks", "latch", "Lcom/example/layered_locks/layeredlocks/Latch;", .null), ("com/example/layered_locks/layeredlocks/AloneLocks", "size", "I", (.int (0 : Int32)))], ar x2 (.object "java/lang/String") [.null, .null, .null, .null, .null, .null, .null, .null, .null, .null, .null, .null, .null, .null, .null, .null], ar x3 .int [(.int (0 : Int32)), (.int (0 : Int32)), (.int (0 : Int32)), (.int (0 : Int32)), (.int (0 : Int32)), (.int (0 : Int32)), (.int (0 : Int32)), (.int (0 : Int32)), (.int (0 : Int32)), (.int (0 : Int32)), (.int (0 : Int32)), (.int (0 : Int32)), (.int (0 : Int32)), (.int (0 : Int32)), (.int (0 : Int32)), (.int (0 : Int32))], ar x4 (.object "com/example/layered_locks/layeredlocks/LockMode") [.null, .null, .null, .null, .null, .null, .null, .null, .null, .null, .null, .null, .null, .null, .null, .null]]
abbrev mem14 (x0 : Addr) (x1 : Addr) (x2 : Addr) (x3 : Addr) (x4 : Addr) : Mem := [ar x0 (.object "java/lang/Object") [.null, .null, .null, .null, .null, .null, .null, .null, .null, .null, .null, .null, .null, .null, .null, .null, .null, .null, .null, .null, .null, .null, .null, .null, .null, .null, .null, .null, .null, .null, .null, .null, .null], ob x1 "com/example/layered_locks/layeredlocks/AloneLocks" [("com/example/layered_locks/layeredlocks/AloneLocks", "paths", "[Ljava/lang/String;", (.ref x2)), ("com/example/layered_locks/layeredlocks/AloneLocks", "lengths", "[I", (.ref x3)), ("com/example/layered_locks/layeredlocks/AloneLocks", "modes", "[Lcom/example/layered_locks/layeredlocks/LockMode;", (.ref x4)), ("com/example/layered_locks/layeredlocks/AloneLocks", "owner", "[Ljava/lang/Object;", (.ref x0)), ("com/example/layered_locks/layeredlocks/AloneLocks", "latch", "Lcom/example/layered_locks/layeredlocks/Latch;", .null), ("com/example/layered_locks/layeredlocks/AloneLocks", "size", "I", (.int (0 : Int32)))], ar x2 (.object "java/lang/String") [.null, .null, .null, .null, .null, .null, .null, .null, .null, .null, .null, .null, .null, .null, .null, .null], ar x3 .int [(.int (0 : Int32)), (.int (0 : Int32)), (.int (0 : Int32)), (.int (0 : Int32)), (.int (0 : Int32)), (.int (0 : Int32)), (.int (0 : Int32)), (.int (0 : Int32)), (.int (0 : Int32)), (.int (0 : Int32)), (.int (0 : Int32)), (.int (0 : Int32)), (.int (0 : Int32)), (.int (0 : Int32)), (.int (0 : Int32)), (.int (0 : Int32))], ar x4 (.object "com/example/layered_locks/layeredlocks/LockMode") [.null, .null, .null, .null, .null, .null, .null, .null, .null, .null, .null, .null, .null, .null, .null, .null]]
abbrev mem15 (x0 : Addr) (x1 : Addr) (x2 : Addr) (x3 : Addr) (x4 : Addr) (x5 : Addr) : Mem := [ar x0 (.object "java/lang/Object") [.null, .null, .null, .null, .null, .null, .null, .null, .null, .null, .null, .null, .null, .null, .null, .null, .null, .null, .null, .null, .null, .null, .null, .null, .null, .null, .null, .null, .null, .null, .null, .null, .null], ob x1 "com/example/layered_locks/layeredlocks/AloneLocks" [("com/example/layered_locks/layeredlocks/AloneLocks", "paths", "[Ljava/lang/String;", (.ref x2)), ("com/example/layered_locks/layeredlocks/AloneLocks", "lengths", "[I", (.ref x3)), ("com/example/layered_locks/layeredlocks/AloneLocks", "modes", "[Lcom/example/layered_locks/layeredlocks/LockMode;", (.ref x4)), ("com/example/layered_locks/layeredlocks/AloneLocks", "owner", "[Ljava/lang/Object;", (.ref x0)), ("com/example/layered_locks/layeredlocks/AloneLocks", "latch", "Lcom/example/layered_locks/layeredlocks/Latch;", .null), ("com/example/layered_locks/layeredlocks/AloneLocks", "size", "I", (.int (0 : Int32)))], ar x2 (.object "java/lang/String") [.null, .null, .null, .null, .null, .null, .null, .null, .null, .null, .null, .null, .null, .null, .null, .null], ar x3 .int [(.int (0 : Int32)), (.int (0 : Int32)), (.int (0 : Int32)), (.int (0 : Int32)), (.int (0 : Int32)), (.int (0 : Int32)), (.int (0 : Int32)), (.int (0 : Int32)), (.int (0 : Int32)), (.int (0 : Int32)), (.int (0 : Int32)), (.int (0 : Int32)), (.int (0 : Int32)), (.int (0 : Int32)), (.int (0 : Int32)), (.int (0 : Int32))], ar x4 (.object "com/example/layered_locks/layeredlocks/LockMode") [.null, .null, .null, .null, .null, .null, .null, .null, .null, .null, .null, .null, .null, .null, .null, .null], ob x5 "com/example/layered_locks/layeredlocks/Latch" [("com/example/layered_locks/layeredlocks/Latch", "held", "[I", .null)]]
abbrev mem16 (x0 : Addr) (x1 : Addr) (x2 : Addr) (x3 : Addr) (x4 : Addr) (x5 : Addr) : Mem := [ob x0 "com/example/layered_locks/layeredlocks/Latch" [("com/example/layered_locks/layeredlocks/Latch", "held", "[I", .null)], ar x1 (.object "java/lang/Object") [.null, .null, .null, .null, .null, .null, .null, .null, .null, .null, .null, .null, .null, .null, .null, .null, .null, .null, .null, .null, .null, .null, .null, .null, .null, .null, .null, .null, .null, .null, .null, .null, .null], ob x2 "com/example/layered_locks/layeredlocks/AloneLocks" [("com/example/layered_locks/layeredlocks/AloneLocks", "paths", "[Ljava/lang/String;", (.ref x3)), ("com/example/layered_locks/layeredlocks/AloneLocks", "lengths", "[I", (.ref x4)), ("com/example/layered_locks/layeredlocks/AloneLocks", "modes", "[Lcom/example/layered_locks/layeredlocks/LockMode;", (.ref x5)), ("com/example/layered_locks/layeredlocks/AloneLocks", "owner", "[Ljava/lang/Object;", (.ref x1)), ("com/example/layered_locks/layeredlocks/AloneLocks", "latch", "Lcom/example/layered_locks/layeredlocks/Latch;", .null), ("com/example/layered_locks/layeredlocks/AloneLocks", "size", "I", (.int (0 : Int32)))], ar x3 (.object "java/lang/String") [.null, .null, .null, .null, .null, .null, .null, .null, .null, .null, .null, .null, .null, .null, .null, .null], ar x4 .int [(.int (0 : Int32)), (.int (0 : Int32)), (.int (0 : Int32)), (.int (0 : Int32)), (.int (0 : Int32)), (.int (0 : Int32)), (.int (0 : Int32)), (.int (0 : Int32)), (.int (0 : Int32)), (.int (0 : Int32)), (.int (0 : Int32)), (.int (0 : Int32)), (.int (0 : Int32)), (.int (0 : Int32)), (.int (0 : Int32)), (.int (0 : Int32))], ar x5 (.object "com/example/layered_locks/layeredlocks/LockMode") [.null, .null, .null, .null, .null, .null, .null, .null, .null, .null, .null, .null, .null, .null, .null, .null]]
abbrev mem17 (x0 : Addr) : Mem := [ar x0 .int [(.int (0 : Int32)), (.int (0 : Int32)), (.int (0 : Int32)), (.int (0 : Int32)), (.int (0 : Int32)), (.int (0 : Int32)), (.int (0 : Int32)), (.int (0 : Int32)), (.int (0 : Int32)), (.int (0 : Int32)), (.int (0 : Int32)), (.int (0 : Int32)), (.int (0 : Int32)), (.int (0 : Int32)), (.int (0 : Int32)), (.int (0 : Int32)), (.int (0 : Int32)), (.int (0 : Int32)), (.int (0 : Int32)), (.int (0 : Int32)), (.int (0 : Int32)), (.int (0 : Int32)), (.int (0 : Int32)), (.int (0 : Int32)), (.int (0 : Int32)), (.int (0 : Int32)), (.int (0 : Int32)), (.int (0 : Int32)), (.int (0 : Int32)), (.int (0 : Int32)), (.int (0 : Int32)), (.int (0 : Int32)), (.int (0 : Int32))]]
abbrev mem18 (x0 : Addr) (x1 : Addr) : Mem := [ar x0 .int [(.int (0 : Int32)), (.int (0 : Int32)), (.int (0 : Int32)), (.int (0 : Int32)), (.int (0 : Int32)), (.int (0 : Int32)), (.int (0 : Int32)), (.int (0 : Int32)), (.int (0 : Int32)), (.int (0 : Int32)), (.int (0 : Int32)), (.int (0 : Int32)), (.int (0 : Int32)), (.int (0 : Int32)), (.int (0 : Int32)), (.int (0 : Int32)), (.int (0 : Int32)), (.int (0 : Int32)), (.int (0 : Int32)), (.int (0 : Int32)), (.int (0 : Int32)), (.int (0 : Int32)), (.int (0 : Int32)), (.int (0 : Int32)), (.int (0 : Int32)), (.int (0 : Int32)), (.int (0 : Int32)), (.int (0 : Int32)), (.int (0 : Int32)), (.int (0 : Int32)), (.int (0 : Int32)), (.int (0 : Int32)), (.int (0 : Int32))], ob x1 "com/example/layered_locks/layeredlocks/Latch" [("com/example/layered_locks/layeredlocks/Latch", "held", "[I", .null)]]
abbrev mem19 (x0 : Addr) (x1 : Addr) : Mem := [ar x0 .int [(.int (0 : Int32)), (.int (0 : Int32)), (.int (0 : Int32)), (.int (0 : Int32)), (.int (0 : Int32)), (.int (0 : Int32)), (.int (0 : Int32)), (.int (0 : Int32)), (.int (0 : Int32)), (.int (0 : Int32)), (.int (0 : Int32)), (.int (0 : Int32)), (.int (0 : Int32)), (.int (0 : Int32)), (.int (0 : Int32)), (.int (0 : Int32)), (.int (0 : Int32)), (.int (0 : Int32)), (.int (0 : Int32)), (.int (0 : Int32)), (.int (0 : Int32)), (.int (0 : Int32)), (.int (0 : Int32)), (.int (0 : Int32)), (.int (0 : Int32)), (.int (0 : Int32)), (.int (0 : Int32)), (.int (0 : Int32)), (.int (0 : Int32)), (.int (0 : Int32)), (.int (0 : Int32)), (.int (0 : Int32)), (.int (0 : Int32))], ob x1 "com/example/layered_locks/layeredlocks/Latch" [("com/example/layered_locks/layeredlocks/Latch", "held", "[I", (.ref x0))]]
abbrev mem20 (x0 : Addr) (x1 : Addr) : Mem := [ar x0 .int [(.int (0 : Int32)), (.int (0 : Int32)), (.int (0 : Int32)), (.int (0 : Int32)), (.int (0 : Int32)), (.int (0 : Int32)), (.int (0 : Int32)), (.int (0 : Int32)), (.int (0 : Int32)), (.int (0 : Int32)), (.int (0 : Int32)), (.int (0 : Int32)), (.int (0 : Int32)), (.int (0 : Int32)), (.int (0 : Int32)), (.int (0 : Int32)), (.int (0 : Int32)), (.int (-1 : Int32)), (.int (0 : Int32)), (.int (0 : Int32)), (.int (0 : Int32)), (.int (0 : Int32)), (.int (0 : Int32)), (.int (0 : Int32)), (.int (0 : Int32)), (.int (0 : Int32)), (.int (0 : Int32)), (.int (0 : Int32)), (.int (0 : Int32)), (.int (0 : Int32)), (.int (0 : Int32)), (.int (0 : Int32)), (.int (0 : Int32))], ob x1 "com/example/layered_locks/layeredlocks/Latch" [("com/example/layered_locks/layeredlocks/Latch", "held", "[I", (.ref x0))]]
abbrev mem21 (x0 : Addr) (x1 : Addr) (x2 : Addr) (x3 : Addr) (x4 : Addr) (x5 : Addr) (x6 : Addr) : Mem := [ar x0 .int [(.int (0 : Int32)), (.int (0 : Int32)), (.int (0 : Int32)), (.int (0 : Int32)), (.int (0 : Int32)), (.int (0 : Int32)), (.int (0 : Int32)), (.int (0 : Int32)), (.int (0 : Int32)), (.int (0 : Int32)), (.int (0 : Int32)), (.int (0 : Int32)), (.int (0 : Int32)), (.int (0 : Int32)), (.int (0 : Int32)), (.int (0 : Int32)), (.int (0 : Int32)), (.int (-1 : Int32)), (.int (0 : Int32)), (.int (0 : Int32)), (.int (0 : Int32)), (.int (0 : Int32)), (.int (0 : Int32)), (.int (0 : Int32)), (.int (0 : Int32)), (.int (0 : Int32)), (.int (0 : Int32)), (.int (0 : Int32)), (.int (0 : Int32)), (.int (0 : Int32)), (.int (0 : Int32)), (.int (0 : Int32)), (.int (0 : Int32))], ob x1 "com/example/layered_locks/layeredlocks/Latch" [("com/example/layered_locks/layeredlocks/Latch", "held", "[I", (.ref x0))], ar x2 (.object "java/lang/Object") [.null, .null, .null, .null, .null, .null, .null, .null, .null, .null, .null, .null, .null, .null, .null, .null, .null, .null, .null, .null, .null, .null, .null, .null, .null, .null, .null, .null, .null, .null, .null, .null, .null], ob x3 "com/example/layered_locks/layeredlocks/AloneLocks" [("com/example/layered_locks/layeredlocks/AloneLocks", "paths", "[Ljava/lang/String;", (.ref x4)), ("com/example/layered_locks/layeredlocks/AloneLocks", "lengths", "[I", (.ref x5)), ("com/example/layered_locks/layeredlocks/AloneLocks", "modes", "[Lcom/example/layered_locks/layeredlocks/LockMode;", (.ref x6)), ("com/example/layered_locks/layeredlocks/AloneLocks", "owner", "[Ljava/lang/Object;", (.ref x2)), ("com/example/layered_locks/layeredlocks/AloneLocks", "latch", "Lcom/example/layered_locks/layeredlocks/Latch;", .null), ("com/example/layered_locks/layeredlocks/AloneLocks", "size", "I", (.int (0 : Int32)))], ar x4 (.object "java/lang/String") [.null, .null, .null, .null, .null, .null, .null, .null, .null, .null, .null, .null, .null, .null, .null, .null], ar x5 .int [(.int (0 : Int32)), (.int (0 : Int32)), (.int (0 : Int32)), (.int (0 : Int32)), (.int (0 : Int32)), (.int (0 : Int32)), (.int (0 : Int32)), (.int (0 : Int32)), (.int (0 : Int32)), (.int (0 : Int32)), (.int (0 : Int32)), (.int (0 : Int32)), (.int (0 : Int32)), (.int (0 : Int32)), (.int (0 : Int32)), (.int (0 : Int32))], ar x6 (.object "com/example/layered_locks/layeredlocks/LockMode") [.null, .null, .null, .null, .null, .null, .null, .null, .null, .null, .null, .null, .null, .null, .null, .null]]
abbrev mem22 (x0 : Addr) (x1 : Addr) (x2 : Addr) (x3 : Addr) (x4 : Addr) (x5 : Addr) (x6 : Addr) : Mem := [ar x0 .int [(.int (0 : Int32)), (.int (0 : Int32)), (.int (0 : Int32)), (.int (0 : Int32)), (.int (0 : Int32)), (.int (0 : Int32)), (.int (0 : Int32)), (.int (0 : Int32)), (.int (0 : Int32)), (.int (0 : Int32)), (.int (0 : Int32)), (.int (0 : Int32)), (.int (0 : Int32)), (.int (0 : Int32)), (.int (0 : Int32)), (.int (0 : Int32)), (.int (0 : Int32)), (.int (-1 : Int32)), (.int (0 : Int32)), (.int (0 : Int32)), (.int (0 : Int32)), (.int (0 : Int32)), (.int (0 : Int32)), (.int (0 : Int32)), (.int (0 : Int32)), (.int (0 : Int32)), (.int (0 : Int32)), (.int (0 : Int32)), (.int (0 : Int32)), (.int (0 : Int32)), (.int (0 : Int32)), (.int (0 : Int32)), (.int (0 : Int32))], ob x1 "com/example/layered_locks/layeredlocks/Latch" [("com/example/layered_locks/layeredlocks/Latch", "held", "[I", (.ref x0))], ar x2 (.object "java/lang/Object") [.null, .null, .null, .null, .null, .null, .null, .null, .null, .null, .null, .null, .null, .null, .null, .null, .null, .null, .null, .null, .null, .null, .null, .null, .null, .null, .null, .null, .null, .null, .null, .null, .null], ob x3 "com/example/layered_locks/layeredlocks/AloneLocks" [("com/example/layered_locks/layeredlocks/AloneLocks", "paths", "[Ljava/lang/String;", (.ref x4)), ("com/example/layered_locks/layeredlocks/AloneLocks", "lengths", "[I", (.ref x5)), ("com/example/layered_locks/layeredlocks/AloneLocks", "modes", "[Lcom/example/layered_locks/layeredlocks/LockMode;", (.ref x6)), ("com/example/layered_locks/layeredlocks/AloneLocks", "owner", "[Ljava/lang/Object;", (.ref x2)), ("com/example/layered_locks/layeredlocks/AloneLocks", "latch", "Lcom/example/layered_locks/layeredlocks/Latch;", (.ref x1)), ("com/example/layered_locks/layeredlocks/AloneLocks", "size", "I", (.int (0 : Int32)))], ar x4 (.object "java/lang/String") [.null, .null, .null, .null, .null, .null, .null, .null, .null, .null, .null, .null, .null, .null, .null, .null], ar x5 .int [(.int (0 : Int32)), (.int (0 : Int32)), (.int (0 : Int32)), (.int (0 : Int32)), (.int (0 : Int32)), (.int (0 : Int32)), (.int (0 : Int32)), (.int (0 : Int32)), (.int (0 : Int32)), (.int (0 : Int32)), (.int (0 : Int32)), (.int (0 : Int32)), (.int (0 : Int32)), (.int (0 : Int32)), (.int (0 : Int32)), (.int (0 : Int32))], ar x6 (.object "com/example/layered_locks/layeredlocks/LockMode") [.null, .null, .null, .null, .null, .null, .null, .null, .null, .null, .null, .null, .null, .null, .null, .null]]
abbrev mem23 (x0 : Addr) (x1 : Addr) (x2 : Addr) (x3 : Addr) (x4 : Addr) (x5 : Addr) (x6 : Addr) (x7 : Addr) (x8 : Addr) (x9 : Addr) (x10 : Addr) : Mem := [ar x0 .int [(.int (0 : Int32)), (.int (0 : Int32)), (.int (0 : Int32)), (.int (0 : Int32)), (.int (0 : Int32)), (.int (0 : Int32)), (.int (0 : Int32)), (.int (0 : Int32)), (.int (0 : Int32)), (.int (0 : Int32)), (.int (0 : Int32)), (.int (0 : Int32)), (.int (0 : Int32)), (.int (0 : Int32)), (.int (0 : Int32)), (.int (0 : Int32)), (.int (0 : Int32)), (.int (-1 : Int32)), (.int (0 : Int32)), (.int (0 : Int32)), (.int (0 : Int32)), (.int (0 : Int32)), (.int (0 : Int32)), (.int (0 : Int32)), (.int (0 : Int32)), (.int (0 : Int32)), (.int (0 : Int32)), (.int (0 : Int32)), (.int (0 : Int32)), (.int (0 : Int32)), (.int (0 : Int32)), (.int (0 : Int32)), (.int (0 : Int32))], ob x1 "com/example/layered_locks/layeredlocks/Latch" [("com/example/layered_locks/layeredlocks/Latch", "held", "[I", (.ref x0))], ar x2 (.object "java/lang/Object") [.null, .null, .null, .null, .null, .null, .null, .null, .null, .null, .null, .null, .null, .null, .null, .null, .null, .null, .null, .null, .null, .null, .null, .null, .null, .null, .null, .null, .null, .null, .null, .null, .null], ob x3 "com/example/layered_locks/layeredlocks/AloneLocks" [("com/example/layered_locks/layeredlocks/AloneLocks", "paths", "[Ljava/lang/String;", (.ref x4)), ("com/example/layered_locks/layeredlocks/AloneLocks", "lengths", "[I", (.ref x5)), ("com/example/layered_locks/layeredlocks/AloneLocks", "modes", "[Lcom/example/layered_locks/layeredlocks/LockMode;", (.ref x6)), ("com/example/layered_locks/layeredlocks/AloneLocks", "owner", "[Ljava/lang/Object;", (.ref x2)), ("com/example/layered_locks/layeredlocks/AloneLocks", "latch", "Lcom/example/layered_locks/layeredlocks/Latch;", (.ref x1)), ("com/example/layered_locks/layeredlocks/AloneLocks", "size", "I", (.int (0 : Int32)))], ar x4 (.object "java/lang/String") [.null, .null, .null, .null, .null, .null, .null, .null, .null, .null, .null, .null, .null, .null, .null, .null], ar x5 .int [(.int (0 : Int32)), (.int (0 : Int32)), (.int (0 : Int32)), (.int (0 : Int32)), (.int (0 : Int32)), (.int (0 : Int32)), (.int (0 : Int32)), (.int (0 : Int32)), (.int (0 : Int32)), (.int (0 : Int32)), (.int (0 : Int32)), (.int (0 : Int32)), (.int (0 : Int32)), (.int (0 : Int32)), (.int (0 : Int32)), (.int (0 : Int32))], ar x6 (.object "com/example/layered_locks/layeredlocks/LockMode") [.null, .null, .null, .null, .null, .null, .null, .null, .null, .null, .null, .null, .null, .null, .null, .null], ob x7 "java/lang/String" [("java/lang/String", "value", "[B", (.ref x8)), ("java/lang/String", "coder", "B", (.int (0 : Int32)))], ob x9 "java/lang/String" [("java/lang/String", "value", "[B", (.ref x10)), ("java/lang/String", "coder", "B", (.int (0 : Int32)))]]
abbrev mem24 (x0 : Addr) (x1 : Addr) (x2 : Addr) (x3 : Addr) (x4 : Addr) (x5 : Addr) (x6 : Addr) (x7 : Addr) (x8 : Addr) (x9 : Addr) : Mem := [ob x0 "com/example/layered_locks/layeredlocks/AloneLocks" [("com/example/layered_locks/layeredlocks/AloneLocks", "paths", "[Ljava/lang/String;", (.ref x1)), ("com/example/layered_locks/layeredlocks/AloneLocks", "lengths", "[I", (.ref x2)), ("com/example/layered_locks/layeredlocks/AloneLocks", "modes", "[Lcom/example/layered_locks/layeredlocks/LockMode;", (.ref x3)), ("com/example/layered_locks/layeredlocks/AloneLocks", "owner", "[Ljava/lang/Object;", (.ref x4)), ("com/example/layered_locks/layeredlocks/AloneLocks", "latch", "Lcom/example/layered_locks/layeredlocks/Latch;", (.ref x5)), ("com/example/layered_locks/layeredlocks/AloneLocks", "size", "I", (.int (0 : Int32)))], ar x1 (.object "java/lang/String") [.null, .null, .null, .null, .null, .null, .null, .null, .null, .null, .null, .null, .null, .null, .null, .null], ar x2 .int [(.int (0 : Int32)), (.int (0 : Int32)), (.int (0 : Int32)), (.int (0 : Int32)), (.int (0 : Int32)), (.int (0 : Int32)), (.int (0 : Int32)), (.int (0 : Int32)), (.int (0 : Int32)), (.int (0 : Int32)), (.int (0 : Int32)), (.int (0 : Int32)), (.int (0 : Int32)), (.int (0 : Int32)), (.int (0 : Int32)), (.int (0 : Int32))], ar x3 (.object "com/example/layered_locks/layeredlocks/LockMode") [.null, .null, .null, .null, .null, .null, .null, .null, .null, .null, .null, .null, .null, .null, .null, .null], ob x6 "java/lang/String" [("java/lang/String", "value", "[B", (.ref x7)), ("java/lang/String", "coder", "B", (.int (0 : Int32)))], ob x8 "java/lang/String" [("java/lang/String", "value", "[B", (.ref x9)), ("java/lang/String", "coder", "B", (.int (0 : Int32)))]]
abbrev mem25 (x0 : Addr) (x1 : Addr) (x2 : Addr) (x3 : Addr) (x4 : Addr) (x5 : Addr) (x6 : Addr) (x7 : Addr) : Mem := [ob x0 "com/example/layered_locks/layeredlocks/AloneLocks" [("com/example/layered_locks/layeredlocks/AloneLocks", "paths", "[Ljava/lang/String;", (.ref x1)), ("com/example/layered_locks/layeredlocks/AloneLocks", "lengths", "[I", (.ref x2)), ("com/example/layered_locks/layeredlocks/AloneLocks", "modes", "[Lcom/example/layered_locks/layeredlocks/LockMode;", (.ref x3)), ("com/example/layered_locks/layeredlocks/AloneLocks", "owner", "[Ljava/lang/Object;", (.ref x4)), ("com/example/layered_locks/layeredlocks/AloneLocks", "latch", "Lcom/example/layered_locks/layeredlocks/Latch;", (.ref x5)), ("com/example/layered_locks/layeredlocks/AloneLocks", "size", "I", (.int (0 : Int32)))], ar x1 (.object "java/lang/String") [.null, .null, .null, .null, .null, .null, .null, .null, .null, .null, .null, .null, .null, .null, .null, .null], ar x2 .int [(.int (0 : Int32)), (.int (0 : Int32)), (.int (0 : Int32)), (.int (0 : Int32)), (.int (0 : Int32)), (.int (0 : Int32)), (.int (0 : Int32)), (.int (0 : Int32)), (.int (0 : Int32)), (.int (0 : Int32)), (.int (0 : Int32)), (.int (0 : Int32)), (.int (0 : Int32)), (.int (0 : Int32)), (.int (0 : Int32)), (.int (0 : Int32))], ar x3 (.object "com/example/layered_locks/layeredlocks/LockMode") [.null, .null, .null, .null, .null, .null, .null, .null, .null, .null, .null, .null, .null, .null, .null, .null], ob x6 "java/lang/String" [("java/lang/String", "value", "[B", (.ref x7)), ("java/lang/String", "coder", "B", (.int (0 : Int32)))]]
abbrev mem26 (x0 : Addr) (x1 : Addr) (x2 : Addr) (x3 : Addr) (x4 : Addr) (x5 : Addr) (x6 : Addr) (x7 : Addr) : Mem := [ob x0 "com/example/layered_locks/layeredlocks/AloneLocks" [("com/example/layered_locks/layeredlocks/AloneLocks", "paths", "[Ljava/lang/String;", (.ref x1)), ("com/example/layered_locks/layeredlocks/AloneLocks", "lengths", "[I", (.ref x2)), ("com/example/layered_locks/layeredlocks/AloneLocks", "modes", "[Lcom/example/layered_locks/layeredlocks/LockMode;", (.ref x3)), ("com/example/layered_locks/layeredlocks/AloneLocks", "owner", "[Ljava/lang/Object;", (.ref x4)), ("com/example/layered_locks/layeredlocks/AloneLocks", "latch", "Lcom/example/layered_locks/layeredlocks/Latch;", (.ref x5)), ("com/example/layered_locks/layeredlocks/AloneLocks", "size", "I", (.int (0 : Int32)))], ar x1 (.object "java/lang/String") [(.ref x6), .null, .null, .null, .null, .null, .null, .null, .null, .null, .null, .null, .null, .null, .null, .null], ar x2 .int [(.int (0 : Int32)), (.int (0 : Int32)), (.int (0 : Int32)), (.int (0 : Int32)), (.int (0 : Int32)), (.int (0 : Int32)), (.int (0 : Int32)), (.int (0 : Int32)), (.int (0 : Int32)), (.int (0 : Int32)), (.int (0 : Int32)), (.int (0 : Int32)), (.int (0 : Int32)), (.int (0 : Int32)), (.int (0 : Int32)), (.int (0 : Int32))], ar x3 (.object "com/example/layered_locks/layeredlocks/LockMode") [.null, .null, .null, .null, .null, .null, .null, .null, .null, .null, .null, .null, .null, .null, .null, .null], ob x6 "java/lang/String" [("java/lang/String", "value", "[B", (.ref x7)), ("java/lang/String", "coder", "B", (.int (0 : Int32)))]]
abbrev mem27 (x0 : Addr) (x1 : Addr) (x2 : Addr) (x3 : Addr) (x4 : Addr) (x5 : Addr) (x6 : Addr) (x7 : Int32) (x8 : Addr) : Mem := [ob x0 "com/example/layered_locks/layeredlocks/AloneLocks" [("com/example/layered_locks/layeredlocks/AloneLocks", "paths", "[Ljava/lang/String;", (.ref x1)), ("com/example/layered_locks/layeredlocks/AloneLocks", "lengths", "[I", (.ref x2)), ("com/example/layered_locks/layeredlocks/AloneLocks", "modes", "[Lcom/example/layered_locks/layeredlocks/LockMode;", (.ref x3)), ("com/example/layered_locks/layeredlocks/AloneLocks", "owner", "[Ljava/lang/Object;", (.ref x4)), ("com/example/layered_locks/layeredlocks/AloneLocks", "latch", "Lcom/example/layered_locks/layeredlocks/Latch;", (.ref x5)), ("com/example/layered_locks/layeredlocks/AloneLocks", "size", "I", (.int (0 : Int32)))], ar x1 (.object "java/lang/String") [(.ref x6), .null, .null, .null, .null, .null, .null, .null, .null, .null, .null, .null, .null, .null, .null, .null], ar x2 .int [(.int x7), (.int (0 : Int32)), (.int (0 : Int32)), (.int (0 : Int32)), (.int (0 : Int32)), (.int (0 : Int32)), (.int (0 : Int32)), (.int (0 : Int32)), (.int (0 : Int32)), (.int (0 : Int32)), (.int (0 : Int32)), (.int (0 : Int32)), (.int (0 : Int32)), (.int (0 : Int32)), (.int (0 : Int32)), (.int (0 : Int32))], ar x3 (.object "com/example/layered_locks/layeredlocks/LockMode") [.null, .null, .null, .null, .null, .null, .null, .null, .null, .null, .null, .null, .null, .null, .null, .null], ob x6 "java/lang/String" [("java/lang/String", "value", "[B", (.ref x8)), ("java/lang/String", "coder", "B", (.int (0 : Int32)))]]
abbrev mem28 (x0 : Addr) (x1 : Addr) (x2 : Addr) (x3 : Addr) (x4 : Addr) (x5 : Addr) (x6 : Addr) (x7 : Int32) (x8 : Value) (x9 : Addr) : Mem := [ob x0 "com/example/layered_locks/layeredlocks/AloneLocks" [("com/example/layered_locks/layeredlocks/AloneLocks", "paths", "[Ljava/lang/String;", (.ref x1)), ("com/example/layered_locks/layeredlocks/AloneLocks", "lengths", "[I", (.ref x2)), ("com/example/layered_locks/layeredlocks/AloneLocks", "modes", "[Lcom/example/layered_locks/layeredlocks/LockMode;", (.ref x3)), ("com/example/layered_locks/layeredlocks/AloneLocks", "owner", "[Ljava/lang/Object;", (.ref x4)), ("com/example/layered_locks/layeredlocks/AloneLocks", "latch", "Lcom/example/layered_locks/layeredlocks/Latch;", (.ref x5)), ("com/example/layered_locks/layeredlocks/AloneLocks", "size", "I", (.int (0 : Int32)))], ar x1 (.object "java/lang/String") [(.ref x6), .null, .null, .null, .null, .null, .null, .null, .null, .null, .null, .null, .null, .null, .null, .null], ar x2 .int [(.int x7), (.int (0 : Int32)), (.int (0 : Int32)), (.int (0 : Int32)), (.int (0 : Int32)), (.int (0 : Int32)), (.int (0 : Int32)), (.int (0 : Int32)), (.int (0 : Int32)), (.int (0 : Int32)), (.int (0 : Int32)), (.int (0 : Int32)), (.int (0 : Int32)), (.int (0 : Int32)), (.int (0 : Int32)), (.int (0 : Int32))], ar x3 (.object "com/example/layered_locks/layeredlocks/LockMode") [x8, .null, .null, .null, .null, .null, .null, .null, .null, .null, .null, .null, .null, .null, .null, .null], ob x6 "java/lang/String" [("java/lang/String", "value", "[B", (.ref x9)), ("java/lang/String", "coder", "B", (.int (0 : Int32)))]]
abbrev mem29 (x0 : Addr) (x1 : Addr) (x2 : Addr) (x3 : Addr) (x4 : Addr) (x5 : Addr) (x6 : Addr) (x7 : Int32) (x8 : Value) (x9 : Addr) : Mem := [ob x0 "com/example/layered_locks/layeredlocks/AloneLocks" [("com/example/layered_locks/layeredlocks/AloneLocks", "paths", "[Ljava/lang/String;", (.ref x1)), ("com/example/layered_locks/layeredlocks/AloneLocks", "lengths", "[I", (.ref x2)), ("com/example/layered_locks/layeredlocks/AloneLocks", "modes", "[Lcom/example/layered_locks/layeredlocks/LockMode;", (.ref x3)), ("com/example/layered_locks/layeredlocks/AloneLocks", "owner", "[Ljava/lang/Object;", (.ref x4)), ("com/example/layered_locks/layeredlocks/AloneLocks", "latch", "Lcom/example/layered_locks/layeredlocks/Latch;", (.ref x5)), ("com/example/layered_locks/layeredlocks/AloneLocks", "size", "I", (.int (1 : Int32)))], ar x1 (.object "java/lang/String") [(.ref x6), .null, .null, .null, .null, .null, .null, .null, .null, .null, .null, .null, .null, .null, .null, .null], ar x2 .int [(.int x7), (.int (0 : Int32)), (.int (0 : Int32)), (.int (0 : Int32)), (.int (0 : Int32)), (.int (0 : Int32)), (.int (0 : Int32)), (.int (0 : Int32)), (.int (0 : Int32)), (.int (0 : Int32)), (.int (0 : Int32)), (.int (0 : Int32)), (.int (0 : Int32)), (.int (0 : Int32)), (.int (0 : Int32)), (.int (0 : Int32))], ar x3 (.object "com/example/layered_locks/layeredlocks/LockMode") [x8, .null, .null, .null, .null, .null, .null, .null, .null, .null, .null, .null, .null, .null, .null, .null], ob x6 "java/lang/String" [("java/lang/String", "value", "[B", (.ref x9)), ("java/lang/String", "coder", "B", (.int (0 : Int32)))]]
abbrev mem30 (x0 : Addr) (x1 : Addr) (x2 : Addr) (x3 : Addr) (x4 : Addr) (x5 : Addr) (x6 : Addr) (x7 : Int32) (x8 : Value) (x9 : Addr) (x10 : Addr) (x11 : Addr) : Mem := [ob x0 "com/example/layered_locks/layeredlocks/AloneLocks" [("com/example/layered_locks/layeredlocks/AloneLocks", "paths", "[Ljava/lang/String;", (.ref x1)), ("com/example/layered_locks/layeredlocks/AloneLocks", "lengths", "[I", (.ref x2)), ("com/example/layered_locks/layeredlocks/AloneLocks", "modes", "[Lcom/example/layered_locks/layeredlocks/LockMode;", (.ref x3)), ("com/example/layered_locks/layeredlocks/AloneLocks", "owner", "[Ljava/lang/Object;", (.ref x4)), ("com/example/layered_locks/layeredlocks/AloneLocks", "latch", "Lcom/example/layered_locks/layeredlocks/Latch;", (.ref x5)), ("com/example/layered_locks/layeredlocks/AloneLocks", "size", "I", (.int (1 : Int32)))], ar x1 (.object "java/lang/String") [(.ref x6), .null, .null, .null, .null, .null, .null, .null, .null, .null, .null, .null, .null, .null, .null, .null], ar x2 .int [(.int x7), (.int (0 : Int32)), (.int (0 : Int32)), (.int (0 : Int32)), (.int (0 : Int32)), (.int (0 : Int32)), (.int (0 : Int32)), (.int (0 : Int32)), (.int (0 : Int32)), (.int (0 : Int32)), (.int (0 : Int32)), (.int (0 : Int32)), (.int (0 : Int32)), (.int (0 : Int32)), (.int (0 : Int32)), (.int (0 : Int32))], ar x3 (.object "com/example/layered_locks/layeredlocks/LockMode") [x8, .null, .null, .null, .null, .null, .null, .null, .null, .null, .null, .null, .null, .null, .null, .null], ob x6 "java/lang/String" [("java/lang/String", "value", "[B", (.ref x9)), ("java/lang/String", "coder", "B", (.int (0 : Int32)))], ob x10 "java/lang/String" [("java/lang/String", "value", "[B", (.ref x11)), ("java/lang/String", "coder", "B", (.int (0 : Int32)))]]
abbrev mem31 (x0 : Addr) (x1 : Addr) (x2 : Addr) (x3 : Addr) (x4 : Addr) (x5 : Addr) (x6 : Addr) (x7 : Addr) (x8 : Int32) (x9 : Value) (x10 : Addr) (x11 : Addr) : Mem := [ob x0 "com/example/layered_locks/layeredlocks/AloneLocks" [("com/example/layered_locks/layeredlocks/AloneLocks", "paths", "[Ljava/lang/String;", (.ref x1)), ("com/example/layered_locks/layeredlocks/AloneLocks", "lengths", "[I", (.ref x2)), ("com/example/layered_locks/layeredlocks/AloneLocks", "modes", "[Lcom/example/layered_locks/layeredlocks/LockMode;", (.ref x3)), ("com/example/layered_locks/layeredlocks/AloneLocks", "owner", "[Ljava/lang/Object;", (.ref x4)), ("com/example/layered_locks/layeredlocks/AloneLocks", "latch", "Lcom/example/layered_locks/layeredlocks/Latch;", (.ref x5)), ("com/example/layered_locks/layeredlocks/AloneLocks", "size", "I", (.int (1 : Int32)))], ar x1 (.object "java/lang/String") [(.ref x6), (.ref x7), .null, .null, .null, .null, .null, .null, .null, .null, .null, .null, .null, .null, .null, .null], ar x2 .int [(.int x8), (.int (0 : Int32)), (.int (0 : Int32)), (.int (0 : Int32)), (.int (0 : Int32)), (.int (0 : Int32)), (.int (0 : Int32)), (.int (0 : Int32)), (.int (0 : Int32)), (.int (0 : Int32)), (.int (0 : Int32)), (.int (0 : Int32)), (.int (0 : Int32)), (.int (0 : Int32)), (.int (0 : Int32)), (.int (0 : Int32))], ar x3 (.object "com/example/layered_locks/layeredlocks/LockMode") [x9, .null, .null, .null, .null, .null, .null, .null, .null, .null, .null, .null, .null, .null, .null, .null], ob x6 "java/lang/String" [("java/lang/String", "value", "[B", (.ref x10)), ("java/lang/String", "coder", "B", (.int (0 : Int32)))], ob x7 "java/lang/String" [("java/lang/String", "value", "[B", (.ref x11)), ("java/lang/String", "coder", "B", (.int (0 : Int32)))]]
abbrev mem32 (x0 : Addr) (x1 : Addr) (x2 : Addr) (x3 : Addr) (x4 : Addr) (x5 : Addr) (x6 : Addr) (x7 : Addr) (x8 : Int32) (x9 : Int32) (x10 : Value) (x11 : Addr) (x12 : Addr) : Mem := [ob x0 "com/example/layered_locks/layeredlocks/AloneLocks" [("com/example/layered_locks/layeredlocks/AloneLocks", "paths", "[Ljava/lang/String;", (.ref x1)), ("com/example/layered_locks/layeredlocks/AloneLocks", "lengths", "[I", (.ref x2)), ("com/example/layered_locks/layeredlocks/AloneLocks", "modes", "[Lcom/example/layered_locks/layeredlocks/LockMode;", (.ref x3)), ("com/example/layered_locks/layeredlocks/AloneLocks", "owner", "[Ljava/lang/Object;", (.ref x4)), ("com/example/layered_locks/layeredlocks/AloneLocks", "latch", "Lcom/example/layered_locks/layeredlocks/Latch;", (.ref x5)), ("com/example/layered_locks/layeredlocks/AloneLocks", "size", "I", (.int (1 : Int32)))], ar x1 (.object "java/lang/String") [(.ref x6), (.ref x7), .null, .null, .null, .null, .null, .null, .null, .null, .null, .null, .null, .null, .null, .null], ar x2 .int [(.int x8), (.int x9), (.int (0 : Int32)), (.int (0 : Int32)), (.int (0 : Int32)), (.int (0 : Int32)), (.int (0 : Int32)), (.int (0 : Int32)), (.int (0 : Int32)), (.int (0 : Int32)), (.int (0 : Int32)), (.int (0 : Int32)), (.int (0 : Int32)), (.int (0 : Int32)), (.int (0 : Int32)), (.int (0 : Int32))], ar x3 (.object "com/example/layered_locks/layeredlocks/LockMode") [x10, .null, .null, .null, .null, .null, .null, .null, .null, .null, .null, .null, .null, .null, .null, .null], ob x6 "java/lang/String" [("java/lang/String", "value", "[B", (.ref x11)), ("java/lang/String", "coder", "B", (.int (0 : Int32)))], ob x7 "java/lang/String" [("java/lang/String", "value", "[B", (.ref x12)), ("java/lang/String", "coder", "B", (.int (0 : Int32)))]]
abbrev mem33 (x0 : Addr) (x1 : Addr) (x2 : Addr) (x3 : Addr) (x4 : Addr) (x5 : Addr) (x6 : Addr) (x7 : Addr) (x8 : Int32) (x9 : Int32) (x10 : Value) (x11 : Value) (x12 : Addr) (x13 : Addr) : Mem := [ob x0 "com/example/layered_locks/layeredlocks/AloneLocks" [("com/example/layered_locks/layeredlocks/AloneLocks", "paths", "[Ljava/lang/String;", (.ref x1)), ("com/example/layered_locks/layeredlocks/AloneLocks", "lengths", "[I", (.ref x2)), ("com/example/layered_locks/layeredlocks/AloneLocks", "modes", "[Lcom/example/layered_locks/layeredlocks/LockMode;", (.ref x3)), ("com/example/layered_locks/layeredlocks/AloneLocks", "owner", "[Ljava/lang/Object;", (.ref x4)), ("com/example/layered_locks/layeredlocks/AloneLocks", "latch", "Lcom/example/layered_locks/layeredlocks/Latch;", (.ref x5)), ("com/example/layered_locks/layeredlocks/AloneLocks", "size", "I", (.int (1 : Int32)))], ar x1 (.object "java/lang/String") [(.ref x6), (.ref x7), .null, .null, .null, .null, .null, .null, .null, .null, .null, .null, .null, .null, .null, .null], ar x2 .int [(.int x8), (.int x9), (.int (0 : Int32)), (.int (0 : Int32)), (.int (0 : Int32)), (.int (0 : Int32)), (.int (0 : Int32)), (.int (0 : Int32)), (.int (0 : Int32)), (.int (0 : Int32)), (.int (0 : Int32)), (.int (0 : Int32)), (.int (0 : Int32)), (.int (0 : Int32)), (.int (0 : Int32)), (.int (0 : Int32))], ar x3 (.object "com/example/layered_locks/layeredlocks/LockMode") [x10, x11, .null, .null, .null, .null, .null, .null, .null, .null, .null, .null, .null, .null, .null, .null], ob x6 "java/lang/String" [("java/lang/String", "value", "[B", (.ref x12)), ("java/lang/String", "coder", "B", (.int (0 : Int32)))], ob x7 "java/lang/String" [("java/lang/String", "value", "[B", (.ref x13)), ("java/lang/String", "coder", "B", (.int (0 : Int32)))]]
abbrev mem34 (x0 : Addr) (x1 : Addr) (x2 : Addr) (x3 : Addr) (x4 : Addr) (x5 : Addr) (x6 : Addr) (x7 : Addr) (x8 : Int32) (x9 : Int32) (x10 : Value) (x11 : Value) (x12 : Addr) (x13 : Addr) : Mem := [ob x0 "com/example/layered_locks/layeredlocks/AloneLocks" [("com/example/layered_locks/layeredlocks/AloneLocks", "paths", "[Ljava/lang/String;", (.ref x1)), ("com/example/layered_locks/layeredlocks/AloneLocks", "lengths", "[I", (.ref x2)), ("com/example/layered_locks/layeredlocks/AloneLocks", "modes", "[Lcom/example/layered_locks/layeredlocks/LockMode;", (.ref x3)), ("com/example/layered_locks/layeredlocks/AloneLocks", "owner", "[Ljava/lang/Object;", (.ref x4)), ("com/example/layered_locks/layeredlocks/AloneLocks", "latch", "Lcom/example/layered_locks/layeredlocks/Latch;", (.ref x5)), ("com/example/layered_locks/layeredlocks/AloneLocks", "size", "I", (.int (2 : Int32)))], ar x1 (.object "java/lang/String") [(.ref x6), (.ref x7), .null, .null, .null, .null, .null, .null, .null, .null, .null, .null, .null, .null, .null, .null], ar x2 .int [(.int x8), (.int x9), (.int (0 : Int32)), (.int (0 : Int32)), (.int (0 : Int32)), (.int (0 : Int32)), (.int (0 : Int32)), (.int (0 : Int32)), (.int (0 : Int32)), (.int (0 : Int32)), (.int (0 : Int32)), (.int (0 : Int32)), (.int (0 : Int32)), (.int (0 : Int32)), (.int (0 : Int32)), (.int (0 : Int32))], ar x3 (.object "com/example/layered_locks/layeredlocks/LockMode") [x10, x11, .null, .null, .null, .null, .null, .null, .null, .null, .null, .null, .null, .null, .null, .null], ob x6 "java/lang/String" [("java/lang/String", "value", "[B", (.ref x12)), ("java/lang/String", "coder", "B", (.int (0 : Int32)))], ob x7 "java/lang/String" [("java/lang/String", "value", "[B", (.ref x13)), ("java/lang/String", "coder", "B", (.int (0 : Int32)))]]
abbrev mem35 (x0 : Addr) (x1 : Addr) (x2 : Addr) (x3 : Addr) (x4 : Addr) (x5 : Addr) (x6 : Addr) (x7 : Int32) (x8 : Addr) : Mem := [ob x0 "com/example/layered_locks/layeredlocks/AloneLocks" [("com/example/layered_locks/layeredlocks/AloneLocks", "paths", "[Ljava/lang/String;", (.ref x1)), ("com/example/layered_locks/layeredlocks/AloneLocks", "lengths", "[I", (.ref x2)), ("com/example/layered_locks/layeredlocks/AloneLocks", "modes", "[Lcom/example/layered_locks/layeredlocks/LockMode;", (.ref x3)), ("com/example/layered_locks/layeredlocks/AloneLocks", "owner", "[Ljava/lang/Object;", (.ref x4)), ("com/example/layered_locks/layeredlocks/AloneLocks", "latch", "Lcom/example/layered_locks/layeredlocks/Latch;", (.ref x5)), ("com/example/layered_locks/layeredlocks/AloneLocks", "size", "I", (.int (0 : Int32)))], ar x1 (.object "java/lang/String") [(.ref x6), .null, .null, .null, .null, .null, .null, .null, .null, .null, .null, .null, .null, .null, .null, .null], ar x2 .int [(.int (x7 ^^^ (1 : Int32))), (.int (0 : Int32)), (.int (0 : Int32)), (.int (0 : Int32)), (.int (0 : Int32)), (.int (0 : Int32)), (.int (0 : Int32)), (.int (0 : Int32)), (.int (0 : Int32)), (.int (0 : Int32)), (.int (0 : Int32)), (.int (0 : Int32)), (.int (0 : Int32)), (.int (0 : Int32)), (.int (0 : Int32)), (.int (0 : Int32))], ar x3 (.object "com/example/layered_locks/layeredlocks/LockMode") [.null, .null, .null, .null, .null, .null, .null, .null, .null, .null, .null, .null, .null, .null, .null, .null], ob x6 "java/lang/String" [("java/lang/String", "value", "[B", (.ref x8)), ("java/lang/String", "coder", "B", (.int (0 : Int32)))]]
abbrev mem36 (x0 : Addr) (x1 : Addr) (x2 : Addr) (x3 : Addr) (x4 : Addr) (x5 : Addr) (x6 : Addr) (x7 : Int32) (x8 : Value) (x9 : Addr) : Mem := [ob x0 "com/example/layered_locks/layeredlocks/AloneLocks" [("com/example/layered_locks/layeredlocks/AloneLocks", "paths", "[Ljava/lang/String;", (.ref x1)), ("com/example/layered_locks/layeredlocks/AloneLocks", "lengths", "[I", (.ref x2)), ("com/example/layered_locks/layeredlocks/AloneLocks", "modes", "[Lcom/example/layered_locks/layeredlocks/LockMode;", (.ref x3)), ("com/example/layered_locks/layeredlocks/AloneLocks", "owner", "[Ljava/lang/Object;", (.ref x4)), ("com/example/layered_locks/layeredlocks/AloneLocks", "latch", "Lcom/example/layered_locks/layeredlocks/Latch;", (.ref x5)), ("com/example/layered_locks/layeredlocks/AloneLocks", "size", "I", (.int (0 : Int32)))], ar x1 (.object "java/lang/String") [(.ref x6), .null, .null, .null, .null, .null, .null, .null, .null, .null, .null, .null, .null, .null, .null, .null], ar x2 .int [(.int (x7 ^^^ (1 : Int32))), (.int (0 : Int32)), (.int (0 : Int32)), (.int (0 : Int32)), (.int (0 : Int32)), (.int (0 : Int32)), (.int (0 : Int32)), (.int (0 : Int32)), (.int (0 : Int32)), (.int (0 : Int32)), (.int (0 : Int32)), (.int (0 : Int32)), (.int (0 : Int32)), (.int (0 : Int32)), (.int (0 : Int32)), (.int (0 : Int32))], ar x3 (.object "com/example/layered_locks/layeredlocks/LockMode") [x8, .null, .null, .null, .null, .null, .null, .null, .null, .null, .null, .null, .null, .null, .null, .null], ob x6 "java/lang/String" [("java/lang/String", "value", "[B", (.ref x9)), ("java/lang/String", "coder", "B", (.int (0 : Int32)))]]
abbrev mem37 (x0 : Addr) (x1 : Addr) (x2 : Addr) (x3 : Addr) (x4 : Addr) (x5 : Addr) (x6 : Addr) (x7 : Int32) (x8 : Value) (x9 : Addr) : Mem := [ob x0 "com/example/layered_locks/layeredlocks/AloneLocks" [("com/example/layered_locks/layeredlocks/AloneLocks", "paths", "[Ljava/lang/String;", (.ref x1)), ("com/example/layered_locks/layeredlocks/AloneLocks", "lengths", "[I", (.ref x2)), ("com/example/layered_locks/layeredlocks/AloneLocks", "modes", "[Lcom/example/layered_locks/layeredlocks/LockMode;", (.ref x3)), ("com/example/layered_locks/layeredlocks/AloneLocks", "owner", "[Ljava/lang/Object;", (.ref x4)), ("com/example/layered_locks/layeredlocks/AloneLocks", "latch", "Lcom/example/layered_locks/layeredlocks/Latch;", (.ref x5)), ("com/example/layered_locks/layeredlocks/AloneLocks", "size", "I", (.int (1 : Int32)))], ar x1 (.object "java/lang/String") [(.ref x6), .null, .null, .null, .null, .null, .null, .null, .null, .null, .null, .null, .null, .null, .null, .null], ar x2 .int [(.int (x7 ^^^ (1 : Int32))), (.int (0 : Int32)), (.int (0 : Int32)), (.int (0 : Int32)), (.int (0 : Int32)), (.int (0 : Int32)), (.int (0 : Int32)), (.int (0 : Int32)), (.int (0 : Int32)), (.int (0 : Int32)), (.int (0 : Int32)), (.int (0 : Int32)), (.int (0 : Int32)), (.int (0 : Int32)), (.int (0 : Int32)), (.int (0 : Int32))], ar x3 (.object "com/example/layered_locks/layeredlocks/LockMode") [x8, .null, .null, .null, .null, .null, .null, .null, .null, .null, .null, .null, .null, .null, .null, .null], ob x6 "java/lang/String" [("java/lang/String", "value", "[B", (.ref x9)), ("java/lang/String", "coder", "B", (.int (0 : Int32)))]]
abbrev mem38 (x0 : Addr) (x1 : Addr) (x2 : Addr) (x3 : Addr) (x4 : Addr) (x5 : Addr) (x6 : Addr) (x7 : Int32) (x8 : Value) (x9 : Addr) (x10 : Addr) (x11 : Addr) : Mem := [ob x0 "com/example/layered_locks/layeredlocks/AloneLocks" [("com/example/layered_locks/layeredlocks/AloneLocks", "paths", "[Ljava/lang/String;", (.ref x1)), ("com/example/layered_locks/layeredlocks/AloneLocks", "lengths", "[I", (.ref x2)), ("com/example/layered_locks/layeredlocks/AloneLocks", "modes", "[Lcom/example/layered_locks/layeredlocks/LockMode;", (.ref x3)), ("com/example/layered_locks/layeredlocks/AloneLocks", "owner", "[Ljava/lang/Object;", (.ref x4)), ("com/example/layered_locks/layeredlocks/AloneLocks", "latch", "Lcom/example/layered_locks/layeredlocks/Latch;", (.ref x5)), ("com/example/layered_locks/layeredlocks/AloneLocks", "size", "I", (.int (1 : Int32)))], ar x1 (.object "java/lang/String") [(.ref x6), .null, .null, .null, .null, .null, .null, .null, .null, .null, .null, .null, .null, .null, .null, .null], ar x2 .int [(.int (x7 ^^^ (1 : Int32))), (.int (0 : Int32)), (.int (0 : Int32)), (.int (0 : Int32)), (.int (0 : Int32)), (.int (0 : Int32)), (.int (0 : Int32)), (.int (0 : Int32)), (.int (0 : Int32)), (.int (0 : Int32)), (.int (0 : Int32)), (.int (0 : Int32)), (.int (0 : Int32)), (.int (0 : Int32)), (.int (0 : Int32)), (.int (0 : Int32))], ar x3 (.object "com/example/layered_locks/layeredlocks/LockMode") [x8, .null, .null, .null, .null, .null, .null, .null, .null, .null, .null, .null, .null, .null, .null, .null], ob x6 "java/lang/String" [("java/lang/String", "value", "[B", (.ref x9)), ("java/lang/String", "coder", "B", (.int (0 : Int32)))], ob x10 "java/lang/String" [("java/lang/String", "value", "[B", (.ref x11)), ("java/lang/String", "coder", "B", (.int (0 : Int32)))]]
abbrev mem39 (x0 : Addr) (x1 : Addr) (x2 : Addr) (x3 : Addr) (x4 : Addr) (x5 : Addr) (x6 : Addr) (x7 : Addr) (x8 : Int32) (x9 : Value) (x10 : Addr) (x11 : Addr) : Mem := [ob x0 "com/example/layered_locks/layeredlocks/AloneLocks" [("com/example/layered_locks/layeredlocks/AloneLocks", "paths", "[Ljava/lang/String;", (.ref x1)), ("com/example/layered_locks/layeredlocks/AloneLocks", "lengths", "[I", (.ref x2)), ("com/example/layered_locks/layeredlocks/AloneLocks", "modes", "[Lcom/example/layered_locks/layeredlocks/LockMode;", (.ref x3)), ("com/example/layered_locks/layeredlocks/AloneLocks", "owner", "[Ljava/lang/Object;", (.ref x4)), ("com/example/layered_locks/layeredlocks/AloneLocks", "latch", "Lcom/example/layered_locks/layeredlocks/Latch;", (.ref x5)), ("com/example/layered_locks/layeredlocks/AloneLocks", "size", "I", (.int (1 : Int32)))], ar x1 (.object "java/lang/String") [(.ref x6), (.ref x7), .null, .null, .null, .null, .null, .null, .null, .null, .null, .null, .null, .null, .null, .null], ar x2 .int [(.int (x8 ^^^ (1 : Int32))), (.int (0 : Int32)), (.int (0 : Int32)), (.int (0 : Int32)), (.int (0 : Int32)), (.int (0 : Int32)), (.int (0 : Int32)), (.int (0 : Int32)), (.int (0 : Int32)), (.int (0 : Int32)), (.int (0 : Int32)), (.int (0 : Int32)), (.int (0 : Int32)), (.int (0 : Int32)), (.int (0 : Int32)), (.int (0 : Int32))], ar x3 (.object "com/example/layered_locks/layeredlocks/LockMode") [x9, .null, .null, .null, .null, .null, .null, .null, .null, .null, .null, .null, .null, .null, .null, .null], ob x6 "java/lang/String" [("java/lang/String", "value", "[B", (.ref x10)), ("java/lang/String", "coder", "B", (.int (0 : Int32)))], ob x7 "java/lang/String" [("java/lang/String", "value", "[B", (.ref x11)), ("java/lang/String", "coder", "B", (.int (0 : Int32)))]]
abbrev mem40 (x0 : Addr) (x1 : Addr) (x2 : Addr) (x3 : Addr) (x4 : Addr) (x5 : Addr) (x6 : Addr) (x7 : Addr) (x8 : Int32) (x9 : Value) (x10 : Addr) (x11 : Addr) : Mem := [ob x0 "com/example/layered_locks/layeredlocks/AloneLocks" [("com/example/layered_locks/layeredlocks/AloneLocks", "paths", "[Ljava/lang/String;", (.ref x1)), ("com/example/layered_locks/layeredlocks/AloneLocks", "lengths", "[I", (.ref x2)), ("com/example/layered_locks/layeredlocks/AloneLocks", "modes", "[Lcom/example/layered_locks/layeredlocks/LockMode;", (.ref x3)), ("com/example/layered_locks/layeredlocks/AloneLocks", "owner", "[Ljava/lang/Object;", (.ref x4)), ("com/example/layered_locks/layeredlocks/AloneLocks", "latch", "Lcom/example/layered_locks/layeredlocks/Latch;", (.ref x5)), ("com/example/layered_locks/layeredlocks/AloneLocks", "size", "I", (.int (1 : Int32)))], ar x1 (.object "java/lang/String") [(.ref x6), (.ref x7), .null, .null, .null, .null, .null, .null, .null, .null, .null, .null, .null, .null, .null, .null], ar x2 .int [(.int (x8 ^^^ (1 : Int32))), (.int x8), (.int (0 : Int32)), (.int (0 : Int32)), (.int (0 : Int32)), (.int (0 : Int32)), (.int (0 : Int32)), (.int (0 : Int32)), (.int (0 : Int32)), (.int (0 : Int32)), (.int (0 : Int32)), (.int (0 : Int32)), (.int (0 : Int32)), (.int (0 : Int32)), (.int (0 : Int32)), (.int (0 : Int32))], ar x3 (.object "com/example/layered_locks/layeredlocks/LockMode") [x9, .null, .null, .null, .null, .null, .null, .null, .null, .null, .null, .null, .null, .null, .null, .null], ob x6 "java/lang/String" [("java/lang/String", "value", "[B", (.ref x10)), ("java/lang/String", "coder", "B", (.int (0 : Int32)))], ob x7 "java/lang/String" [("java/lang/String", "value", "[B", (.ref x11)), ("java/lang/String", "coder", "B", (.int (0 : Int32)))]]
abbrev mem41 (x0 : Addr) (x1 : Addr) (x2 : Addr) (x3 : Addr) (x4 : Addr) (x5 : Addr) (x6 : Addr) (x7 : Addr) (x8 : Int32) (x9 : Value) (x10 : Value) (x11 : Addr) (x12 : Addr) : Mem := [ob x0 "com/example/layered_locks/layeredlocks/AloneLocks" [("com/example/layered_locks/layeredlocks/AloneLocks", "paths", "[Ljava/lang/String;", (.ref x1)), ("com/example/layered_locks/layeredlocks/AloneLocks", "lengths", "[I", (.ref x2)), ("com/example/layered_locks/layeredlocks/AloneLocks", "modes", "[Lcom/example/layered_locks/layeredlocks/LockMode;", (.ref x3)), ("com/example/layered_locks/layeredlocks/AloneLocks", "owner", "[Ljava/lang/Object;", (.ref x4)), ("com/example/layered_locks/layeredlocks/AloneLocks", "latch", "Lcom/example/layered_locks/layeredlocks/Latch;", (.ref x5)), ("com/example/layered_locks/layeredlocks/AloneLocks", "size", "I", (.int (1 : Int32)))], ar x1 (.object "java/lang/String") [(.ref x6), (.ref x7), .null, .null, .null, .null, .null, .null, .null, .null, .null, .null, .null, .null, .null, .null], ar x2 .int [(.int (x8 ^^^ (1 : Int32))), (.int x8), (.int (0 : Int32)), (.int (0 : Int32)), (.int (0 : Int32)), (.int (0 : Int32)), (.int (0 : Int32)), (.int (0 : Int32)), (.int (0 : Int32)), (.int (0 : Int32)), (.int (0 : Int32)), (.int (0 : Int32)), (.int (0 : Int32)), (.int (0 : Int32)), (.int (0 : Int32)), (.int (0 : Int32))], ar x3 (.object "com/example/layered_locks/layeredlocks/LockMode") [x9, x10, .null, .null, .null, .null, .null, .null, .null, .null, .null, .null, .null, .null, .null, .null], ob x6 "java/lang/String" [("java/lang/String", "value", "[B", (.ref x11)), ("java/lang/String", "coder", "B", (.int (0 : Int32)))], ob x7 "java/lang/String" [("java/lang/String", "value", "[B", (.ref x12)), ("java/lang/String", "coder", "B", (.int (0 : Int32)))]]
abbrev mem42 (x0 : Addr) (x1 : Addr) (x2 : Addr) (x3 : Addr) (x4 : Addr) (x5 : Addr) (x6 : Addr) (x7 : Addr) (x8 : Int32) (x9 : Value) (x10 : Value) (x11 : Addr) (x12 : Addr) : Mem := [ob x0 "com/example/layered_locks/layeredlocks/AloneLocks" [("com/example/layered_locks/layeredlocks/AloneLocks", "paths", "[Ljava/lang/String;", (.ref x1)), ("com/example/layered_locks/layeredlocks/AloneLocks", "lengths", "[I", (.ref x2)), ("com/example/layered_locks/layeredlocks/AloneLocks", "modes", "[Lcom/example/layered_locks/layeredlocks/LockMode;", (.ref x3)), ("com/example/layered_locks/layeredlocks/AloneLocks", "owner", "[Ljava/lang/Object;", (.ref x4)), ("com/example/layered_locks/layeredlocks/AloneLocks", "latch", "Lcom/example/layered_locks/layeredlocks/Latch;", (.ref x5)), ("com/example/layered_locks/layeredlocks/AloneLocks", "size", "I", (.int (2 : Int32)))], ar x1 (.object "java/lang/String") [(.ref x6), (.ref x7), .null, .null, .null, .null, .null, .null, .null, .null, .null, .null, .null, .null, .null, .null], ar x2 .int [(.int (x8 ^^^ (1 : Int32))), (.int x8), (.int (0 : Int32)), (.int (0 : Int32)), (.int (0 : Int32)), (.int (0 : Int32)), (.int (0 : Int32)), (.int (0 : Int32)), (.int (0 : Int32)), (.int (0 : Int32)), (.int (0 : Int32)), (.int (0 : Int32)), (.int (0 : Int32)), (.int (0 : Int32)), (.int (0 : Int32)), (.int (0 : Int32))], ar x3 (.object "com/example/layered_locks/layeredlocks/LockMode") [x9, x10, .null, .null, .null, .null, .null, .null, .null, .null, .null, .null, .null, .null, .null, .null], ob x6 "java/lang/String" [("java/lang/String", "value", "[B", (.ref x11)), ("java/lang/String", "coder", "B", (.int (0 : Int32)))], ob x7 "java/lang/String" [("java/lang/String", "value", "[B", (.ref x12)), ("java/lang/String", "coder", "B", (.int (0 : Int32)))]]

section StrNew
open StrChars.Road
theorem Holds.keep {Z : State} {a0 : Array Value} {h h' : Heap} {a : Addr} {D : Desc} {ws : List Addr} (K : Keep h h' ws) (q : a ∉ ws) (H : Holds Z a0 h a D) : Holds Z a0 h' a D := by
  rcases D with ⟨C, fs⟩ | ⟨ty, vs⟩
  · exact ⟨H.1.keep K, fun f hf => ⟨(H.2.1 f hf).1.keep K q, (H.2.1 f hf).2⟩, H.2.2⟩
  · obtain ⟨c, A, r⟩ := H; exact ⟨c, ⟨K.2.1 a c A.1 q, A.2⟩, r⟩
theorem arv_of {Z : State} {a0 : Array Value} {h : Heap} {a : Addr} {ty : FieldType} {vs : List Value} (H : Holds Z a0 h a (.inr (ty, vs))) (hn : vs.length < 2 ^ 31) (d : Value) (hf : ∀ v ∈ vs, fits ty v = true) : ∃ k, Arv Z h a k ty (Int32.ofNat vs.length) vs d := by
  obtain ⟨c, A, e, -⟩ := H.arr
  have q : (Int32.ofNat vs.length).toInt = vs.length := len_toInt hn
  have sz : c.slots.size = vs.length := by rw [e]; simp
  refine ⟨c.cls, c, A, rfl, ?_, ?_, fun k hk => ?_, fun i hi => ?_⟩
  · rw [sz]; simp only [Int32.toNatClampNeg, q]; rfl
  · rw [Int32.lt_iff_toInt_lt, q]; exact Int.not_lt.mpr (Int.natCast_nonneg _)
  · rw [sz] at hk; rw [e]; simp [List.getD, List.getElem?_eq_getElem hk]
  · rw [sz] at hi; simp only [List.getD, List.getElem?_eq_getElem hi, Option.getD_some]; exact hf _ (List.getElem_mem hi)
theorem holds_of_arv {Z : State} {a0 : Array Value} {h : Heap} {a : Addr} {k : ClassId} {ty : FieldType} {vs : List Value} {d : Value} {N : Int32} (V : Arv Z h a k ty N vs d) (hN : N.toNatClampNeg = vs.length) (ht : ∀ C, ty ≠ .object C) : Holds Z a0 h a (.inr (ty, vs)) := by
  obtain ⟨c, A, -, S, -, H, -⟩ := V
  refine ⟨c, A, List.ext_getElem? fun i => ?_, fun C q => absurd q (ht C)⟩
  by_cases hi : i < vs.length
  · have := H i (by omega)
    rw [Array.getElem?_toList, this]; simp [List.getD, List.getElem?_eq_getElem hi]
  · have l1 : vs.length ≤ i := by omega
    have l2 : c.slots.toList.length ≤ i := by rw [Array.length_toList]; omega
    rw [List.getElem?_eq_none l1, List.getElem?_eq_none l2]
theorem go_newStr {B : Bdy} {Z : State} {a0 : Array Value} {h0 : Heap} {Q : Option Value → Mem → Prop} {k nn : Nat} {ds : Mem} {pc : Nat} {ls : Array Slot} {st : List Value} {x b : Addr} {idx kI : Nat} {fs : Fds} {rest : List Value} {v0 c0 : Value} {z : Int32} {bytes : ByteArray} {maxL : Nat}
    (cs : List Int32) (i j n q : Nat) (hp : pc + 3 = q) (hd : decode B.2.1 pc = .ok (.invokespecial idx, 3)) (hst : st = .ref b :: .ref x :: rest) (hi : ds[i]? = some (ob x "java/lang/String" fs)) (iV iC : Nat) (hV : fs[iV]? = some ("java/lang/String", "value", "[B", v0)) (hC : fs[iC]? = some ("java/lang/String", "coder", "B", c0)) (hj : ds[j]? = some (ar b .char (cs.map Value.int)))
    (hn : cs.length = n) (l0 : 0 < n) (l2 : n ≤ 4000) (hpc : ∀ c ∈ cs, 0 ≤ c.toInt ∧ c.toInt ≤ 255) (S : Sta Z h0 "java/lang/String" "COMPACT_STRINGS" "Z" (.int z)) (hz : ¬ z = 0) (hw' : ∀ d ∈ words, d.before a0 Z = true) (wi : (Jvm.Cond.instantiable "java/lang/String" kI).before a0 Z = true)
    (w1 : (Jvm.Cond.methodLink B.1.cls idx ⟨"java/lang/String", "<init>", "([C)V"⟩).before a0 Z = true) (w2 : (Jvm.Cond.instanceMethod ⟨"java/lang/String", "<init>", "([C)V"⟩).before a0 Z = true) (w4 : (Jvm.Cond.code ⟨"java/lang/String", "<init>", "([C)V"⟩ bytes maxL none).before a0 Z = true)
    (hsz : ls.size = B.2.2.1) (W : Nat) (hW : (rest.map fun v => v.category).sum = W) (hf : 4 ≤ B.2.2.2.2.frames) (hl : W + 65 ≤ B.2.2.2.2.locals) (hk : k + 1 ≤ B.2.2.2.2.cells) (hs : nn + n ≤ B.2.2.2.2.slots)
    (H : ∀ t, Go B Z a0 h0 Q (k + 1) (nn + n) (ds.set i (ob x "java/lang/String" [("java/lang/String", "value", "[B", .ref t), ("java/lang/String", "coder", "B", .int 0)]) ++ [ar t .byte ((cs.map fun c => c.toInt8.toInt32).map Value.int)]) q ls rest) : Go B Z a0 h0 Q k nn ds pc ls st := by
  subst hp hst
  intro p l e s m args below meth c T locs hs' as Cc X N M R
  have hZ := Cc.2.1
  have HX := M.at hi
  obtain ⟨FV, LV, tV, pV⟩ := HX.2.1 _ (List.mem_of_getElem? hV)
  obtain ⟨FC, LC, tC, pC⟩ := HX.2.1 _ (List.mem_of_getElem? hC)
  have i255 : (255 : Int32).toInt = 255 := rfl
  have i0 : (0 : Int32).toInt = 0 := rfl
  have i65 : (65535 : Int32).toInt = 65535 := rfl
  have lm : (cs.map Value.int).length = n := by rw [List.length_map]; exact hn
  obtain ⟨kC, KA⟩ := arv_of (M.at hj) (by omega) (.int 0) (fun v hv => by
    obtain ⟨c, hc, rfl⟩ := List.mem_map.mp hv
    have r := hpc c hc
    simp only [fits, Bool.and_eq_true, decide_eq_true_eq, Int32.le_iff_toInt_le, i0, i65]; omega)
  obtain ⟨_, _, ⟨T', L', k', n'⟩, -, X', ⟨Lc, hQ, l1, y1, z1⟩, st'⟩ := X.specialBack Cc.1 (y := (⟨"java/lang/String", "<init>", "([C)V"⟩ : MethodName)) rfl Cc.2.2.2.2.1 (mvT hZ w1) (mvT hZ w2) (mvT hZ w4) (by decide)
    (backV (W := W) hZ hw' wi (cs := cs) (n := n) (n0 := h0.size) (M.new hi) M.1.1 HX.1 FV FC KA (S.ext M.1) hz hn (by rw [lm]) l0 l2 (fun c hc => by have r := hpc c hc; rw [Int32.lt_iff_toInt_lt, Int32.lt_iff_toInt_lt, i0, i255]; omega) rfl hf hl)
    (g := mkF m pc ls (.ref b :: .ref x :: rest)) rfl (hsz.trans Cc.2.2.2.1.symm) (Steps.refl _) (a := x) (argsL := [.ref b]) (rest := rest) (lenOf (d := "([C)V") (ps := [.array .char]) (r := none) (by decide +kernel) rfl) rfl (by show 2 * 0 + _ ≤ _; omega) (hb Cc.2.2.1 hd) (fun _ _ => ⟨rfl, rfl, hk, hs⟩)
  dsimp only [Pt.U, Pt.locs, Pt.cells, Pt.slots] at X' l1 y1 z1 st' hQ
  subst l1 y1 z1
  obtain ⟨rfl, N', K', E', C', t, kb, t0, t1, tx, V', A'⟩ := hQ
  refine (H t p l e s m args below meth c T' _ hs' as Cc X' (Fr.app N N') ?_ ?_).back fun t hr => st'.trans hr
  rotate_left
  · refine ⟨Nat.le_trans R.1 K'.1, fun y cy hy hn => K'.2.1 y cy (R.2.1 y cy hy hn) (ninS (R.out (List.mem_of_getElem? hi) hy hn) nin0), fun q hq => ?_⟩
    rcases List.mem_append.mp hq with hq | hq
    · obtain ⟨j', hj'⟩ := List.getElem?_of_mem hq
      by_cases ee : i = j'
      · subst ee
        rw [List.getElem?_set_self (List.getElem?_eq_some_iff.mp hi).1] at hj'
        cases hj'; exact R.2.2 (x, .inl ("java/lang/String", fs)) (List.mem_of_getElem? hi)
      · rw [List.getElem?_set_ne ee] at hj'; exact R.2.2 _ (List.mem_of_getElem? hj')
    · cases List.mem_singleton.mp hq; exact Or.inr (Nat.le_trans R.1 t1)
  have hb0 : ∀ q ∈ ds, q.1 < T.heap.size := fun q hq => (M.2.1 q hq).2.lt
  have lb : ((cs.map fun c => c.toInt8.toInt32).map Value.int).length = n := by rw [List.length_map, List.length_map]; exact hn
  have HT : Holds Z a0 T'.heap t (.inr (.byte, (cs.map fun c => c.toInt8.toInt32).map Value.int)) := holds_of_arv A' (by
    rw [lb]; have q : (Int32.ofNat n).toInt = n := len_toInt (by omega)
    rw [lm]; simp only [Int32.toNatClampNeg, q]; rfl) (fun C q => by cases q)
  have HX' : Holds Z a0 T'.heap x (.inl ("java/lang/String", [("java/lang/String", "value", "[B", .ref t), ("java/lang/String", "coder", "B", .int 0)])) := by
    refine ⟨E', fun f hf => ?_, (by decide : (["value", "coder"] : List String).Nodup)⟩
    rcases List.mem_cons.mp hf with rfl | hf
    · exact ⟨V', LV, tV, pV⟩
    · cases List.mem_singleton.mp hf; exact ⟨C', LC, tC, pC⟩
  have hset : ∀ q ∈ ds.set i (ob x "java/lang/String" [("java/lang/String", "value", "[B", .ref t), ("java/lang/String", "coder", "B", .int 0)]), h0.size ≤ q.1 ∧ q.1 < T.heap.size ∧ Holds Z a0 T'.heap q.1 q.2 := fun q hq => by
    obtain ⟨j', hj'⟩ := List.getElem?_of_mem hq
    by_cases ee : i = j'
    · subst ee
      rw [List.getElem?_set_self (List.getElem?_eq_some_iff.mp hi).1] at hj'
      cases hj'; exact ⟨M.new hi, HX.1.lt, HX'⟩
    · rw [List.getElem?_set_ne ee] at hj'
      refine ⟨M.new hj', (M.at hj').lt, Holds.keep K' ?_ (M.at hj')⟩
      exact ninS (M.ne hj' hi (Ne.symm ee)) nin0
  refine ⟨⟨Nat.le_trans M.1.1 K'.1, fun y cy hy => K'.2.1 y cy (M.1.2 y cy hy) (ninS (Nat.ne_of_lt (Nat.lt_of_lt_of_le (Array.getElem?_eq_some_iff.mp hy).1 (M.new hi))) nin0)⟩, fun q hq => ?_, List.pairwise_append.mpr ⟨?_, List.pairwise_singleton _ _, fun q hq r hr => ?_⟩⟩
  · rcases List.mem_append.mp hq with hq | hq
    · exact ⟨(hset q hq).1, (hset q hq).2.2⟩
    · cases List.mem_singleton.mp hq; exact ⟨t0, HT⟩
  · refine List.pairwise_iff_getElem.mpr fun a b la lb' q => ?_
    rw [List.length_set] at la lb'
    have P := List.pairwise_iff_getElem.mp M.2.2 a b la lb' q
    obtain ⟨li, ei⟩ := List.getElem?_eq_some_iff.mp hi
    rw [List.getElem_set, List.getElem_set]
    split
    · rename_i e1; subst e1
      rw [if_neg (Nat.ne_of_lt q)]
      rw [ei] at P; exact P
    · split
      · rename_i e1; subst e1; rw [ei] at P; exact P
      · exact P
  · cases List.mem_singleton.mp hr
    exact Nat.ne_of_lt (Nat.lt_of_lt_of_le (hset q hq).2.1 t1)
end StrNew
theorem wstr : ∀ d ∈ StrChars.Road.words, d ∈ tables_1 := by decide +kernel

theorem chr255 (x : Int32) (h : 0 ≤ x.toInt ∧ x.toInt ≤ 255) : (nar .char x.toUInt32.toUInt16.toUInt32.toInt32).toInt = x.toInt := by
  have a := c_i2c x
  have b := c_i2c x.toUInt32.toUInt16.toUInt32.toInt32
  show (x.toUInt32.toUInt16.toUInt32.toInt32).toUInt32.toUInt16.toUInt32.toInt32.toInt = x.toInt
  omega
theorem chr_rng (x : Int32) (h : 0 ≤ x.toInt ∧ x.toInt ≤ 255) : 0 ≤ (nar .char x.toUInt32.toUInt16.toUInt32.toInt32).toInt ∧ (nar .char x.toUInt32.toUInt16.toUInt32.toInt32).toInt ≤ 255 := by
  rw [chr255 x h]; exact h
theorem and255 (x : Int32) : 0 ≤ (x &&& (255 : Int32)).toInt ∧ (x &&& (255 : Int32)).toInt ≤ 255 := c_and x (255 : Int32) (by decide)

def Rm (Z : State) (h0 : Heap) (v : Value) : Prop := v = .null ∨ ∃ a, v = .ref a ∧ Exa Z h0 a "com/example/layered_locks/layeredlocks/LockMode"
theorem Rm.isR {Z : State} {h0 : Heap} {v : Value} (H : Rm Z h0 v) : v.isRef = true := by rcases H with rfl | ⟨a, rfl, -⟩ <;> rfl
theorem Rm.sto {Z : State} {a0 : Array Value} {h0 : Heap} {v : Value} {ds : Mem} {a : Addr} {vs : List Value} {i : Nat} (H : Rm Z h0 v) (hi : ds[i]? = some (ar a (.object "com/example/layered_locks/layeredlocks/LockMode") vs)) : ∀ h, Mo Z a0 h0 ds h → Sto Z h a v := fun h M => by
  rcases H with rfl | ⟨y, rfl, E⟩
  · exact Or.inl rfl
  · obtain ⟨c, A, -, O⟩ := (M.at hi).arr
    exact Sto.of A (O _ rfl) (Ins.self (E.ext M.1))

theorem d1_0 : decode method_2_code 0 = .ok (.iload_n 0, 1) := by decide +kernel
theorem d1_1 : decode method_2_code 1 = .ok (.ifCond .ne 7, 3) := by decide +kernel
theorem d1_4 : decode method_2_code 4 = .ok (.getstatic 7, 3) := by decide +kernel
theorem d1_7 : decode method_2_code 7 = .ok (.areturn, 1) := by decide +kernel
theorem d1_8 : decode method_2_code 8 = .ok (.iload_n 0, 1) := by decide +kernel
theorem d1_9 : decode method_2_code 9 = .ok (.iconst 1, 1) := by decide +kernel
theorem d1_10 : decode method_2_code 10 = .ok (.if_icmp .ne 7, 3) := by decide +kernel
theorem d1_13 : decode method_2_code 13 = .ok (.getstatic 13, 3) := by decide +kernel
theorem d1_16 : decode method_2_code 16 = .ok (.areturn, 1) := by decide +kernel
theorem d1_17 : decode method_2_code 17 = .ok (.iload_n 0, 1) := by decide +kernel
theorem d1_18 : decode method_2_code 18 = .ok (.iconst 2, 1) := by decide +kernel
theorem d1_19 : decode method_2_code 19 = .ok (.if_icmp .ne 7, 3) := by decide +kernel
theorem d1_22 : decode method_2_code 22 = .ok (.getstatic 16, 3) := by decide +kernel
theorem d1_25 : decode method_2_code 25 = .ok (.areturn, 1) := by decide +kernel
theorem d1_26 : decode method_2_code 26 = .ok (.iload_n 0, 1) := by decide +kernel
theorem d1_27 : decode method_2_code 27 = .ok (.iconst 3, 1) := by decide +kernel
theorem d1_28 : decode method_2_code 28 = .ok (.if_icmp .ne 7, 3) := by decide +kernel
theorem d1_31 : decode method_2_code 31 = .ok (.getstatic 19, 3) := by decide +kernel
theorem d1_34 : decode method_2_code 34 = .ok (.areturn, 1) := by decide +kernel
theorem d1_35 : decode method_2_code 35 = .ok (.iload_n 0, 1) := by decide +kernel
theorem d1_36 : decode method_2_code 36 = .ok (.iconst 4, 1) := by decide +kernel
theorem d1_37 : decode method_2_code 37 = .ok (.if_icmp .ne 7, 3) := by decide +kernel
theorem d1_40 : decode method_2_code 40 = .ok (.getstatic 22, 3) := by decide +kernel
theorem d1_43 : decode method_2_code 43 = .ok (.areturn, 1) := by decide +kernel
theorem d1_44 : decode method_2_code 44 = .ok (.aconst_null, 1) := by decide +kernel
theorem d1_45 : decode method_2_code 45 = .ok (.areturn, 1) := by decide +kernel
theorem pn1 : plainFor (⟨"com/example/layered_locks/layeredlocks/AloneLocksAddPinLaw", "pick", "(I)Lcom/example/layered_locks/layeredlocks/LockMode;"⟩ : MethodName) = true := by first | (apply plainFor_of_name; simp [plainName, overriddenIn]; done) | decide +kernel
def B1 : Bdy := (⟨"com/example/layered_locks/layeredlocks/AloneLocksAddPinLaw", "pick", "(I)Lcom/example/layered_locks/layeredlocks/LockMode;"⟩, method_2_code, 1, (some (.object "com/example/layered_locks/layeredlocks/LockMode")), ({ frames := 0, cells := 0, slots := 0, locals := 0 } : Room))
set_option maxRecDepth 65536 in
set_option maxHeartbeats 4000000 in
theorem m_pick (Z : State) (a0 : Array Value) (hw : ∀ d ∈ tables_1, d.before a0 Z = true) (h0 : Heap) (ds : Mem) (p1 : Int32) (mIS : Addr) (SIS : Sta Z h0 "com/example/layered_locks/layeredlocks/LockMode" "IS" "Lcom/example/layered_locks/layeredlocks/LockMode;" (.ref mIS)) (EIS : Exa Z h0 mIS "com/example/layered_locks/layeredlocks/LockMode") (mIX : Addr) (SIX : Sta Z h0 "com/example/layered_locks/layeredlocks/LockMode" "IX" "Lcom/example/layered_locks/layeredlocks/LockMode;" (.ref mIX)) (EIX : Exa Z h0 mIX "com/example/layered_locks/layeredlocks/LockMode") (mS : Addr) (SS : Sta Z h0 "com/example/layered_locks/layeredlocks/LockMode" "S" "Lcom/example/layered_locks/layeredlocks/LockMode;" (.ref mS)) (ES : Exa Z h0 mS "com/example/layered_locks/layeredlocks/LockMode") (mSIX : Addr) (SSIX : Sta Z h0 "com/example/layered_locks/layeredlocks/LockMode" "SIX" "Lcom/example/layered_locks/layeredlocks/LockMode;" (.ref mSIX)) (ESIX : Exa Z h0 mSIX "com/example/layered_locks/layeredlocks/LockMode") (mX : Addr) (SX : Sta Z h0 "com/example/layered_locks/layeredlocks/LockMode" "X" "Lcom/example/layered_locks/layeredlocks/LockMode;" (.ref mX)) (EX : Exa Z h0 mX "com/example/layered_locks/layeredlocks/LockMode") :
    Met B1 Z a0 h0 #[(.int p1)] ds (fun v ds' => ∃ r : Value, v = some r ∧ ds = ds' ∧ Rm Z h0 r) := by
  refine Met.of pn1 (ls := #[.val (.int p1)]) (fun m => by first | (simp [entryFrame, mkF, argsToLocals, Value.category, B1]; done) | rfl) ?_
  show Go B1 Z a0 h0 _ 0 0 ds 0 #[.val (.int p1)] []
  refine go_iloadN 1 rfl d1_0 rfl ?_
  refine go_if 8 4 rfl (by decide) rfl d1_1 rfl (fun (hc1_0 : p1.toInt ≠ 0) => ?_) (fun (hc1_0 : ¬ (p1.toInt ≠ 0)) => ?_)
  · refine go_iloadN 9 rfl d1_8 rfl ?_
    refine go_iconst (1 : Int32) 10 rfl d1_9 rfl ?_
    refine go_icmp 17 13 rfl (by decide) rfl d1_10 rfl (fun (hc10_1 : p1.toInt ≠ (1 : Int)) => ?_) (fun (hc10_1 : ¬ (p1.toInt ≠ (1 : Int))) => ?_)
    · refine go_iloadN 18 rfl d1_17 rfl ?_
      refine go_iconst (2 : Int32) 19 rfl d1_18 rfl ?_
      refine go_icmp 26 22 rfl (by decide) rfl d1_19 rfl (fun (hc19_2 : p1.toInt ≠ (2 : Int)) => ?_) (fun (hc19_2 : ¬ (p1.toInt ≠ (2 : Int))) => ?_)
      · refine go_iloadN 27 rfl d1_26 rfl ?_
        refine go_iconst (3 : Int32) 28 rfl d1_27 rfl ?_
        refine go_icmp 35 31 rfl (by decide) rfl d1_28 rfl (fun (hc28_3 : p1.toInt ≠ (3 : Int)) => ?_) (fun (hc28_3 : ¬ (p1.toInt ≠ (3 : Int))) => ?_)
        · refine go_iloadN 36 rfl d1_35 rfl ?_
          refine go_iconst (4 : Int32) 37 rfl d1_36 rfl ?_
          refine go_icmp 44 40 rfl (by decide) rfl d1_37 rfl (fun (hc37_4 : p1.toInt ≠ (4 : Int)) => ?_) (fun (hc37_4 : ¬ (p1.toInt ≠ (4 : Int))) => ?_)
          · refine go_aconstNull 45 rfl d1_44 ?_
            exact go_areturn d1_45 rfl rfl rfl rfl (by decide) (by decide) ⟨_, rfl, rfl, Or.inl rfl⟩
          · refine go_getS 43 rfl d1_40 (wd hw 107 rfl) SX ?_
            exact go_areturn d1_43 rfl rfl rfl rfl (by decide) (by decide) ⟨_, rfl, rfl, Or.inr ⟨_, rfl, EX⟩⟩
        · refine go_getS 34 rfl d1_31 (wd hw 109 rfl) SSIX ?_
          exact go_areturn d1_34 rfl rfl rfl rfl (by decide) (by decide) ⟨_, rfl, rfl, Or.inr ⟨_, rfl, ESIX⟩⟩
      · refine go_getS 25 rfl d1_22 (wd hw 4 rfl) SS ?_
        exact go_areturn d1_25 rfl rfl rfl rfl (by decide) (by decide) ⟨_, rfl, rfl, Or.inr ⟨_, rfl, ES⟩⟩
    · refine go_getS 16 rfl d1_13 (wd hw 111 rfl) SIX ?_
      exact go_areturn d1_16 rfl rfl rfl rfl (by decide) (by decide) ⟨_, rfl, rfl, Or.inr ⟨_, rfl, EIX⟩⟩
  · refine go_getS 7 rfl d1_4 (wd hw 7 rfl) SIS ?_
    exact go_areturn d1_7 rfl rfl rfl rfl (by decide) (by decide) ⟨_, rfl, rfl, Or.inr ⟨_, rfl, EIS⟩⟩
theorem d9_0 : decode prog_54_method_4_code 0 = .ok (.bipush 33, 2) := by decide +kernel
theorem d9_2 : decode prog_54_method_4_code 2 = .ok (.anewarray 2, 3) := by decide +kernel
theorem d9_5 : decode prog_54_method_4_code 5 = .ok (.areturn, 1) := by decide +kernel
theorem pn9 : plainFor (⟨"com/example/layered_locks/layeredlocks/Padded", "references", "()[Ljava/lang/Object;"⟩ : MethodName) = true := by first | (apply plainFor_of_name; simp [plainName, overriddenIn]; done) | decide +kernel
def B9_9 : Bdy := (⟨"com/example/layered_locks/layeredlocks/Padded", "references", "()[Ljava/lang/Object;"⟩, prog_54_method_4_code, 0, (some (.array (.object "java/lang/Object"))), ({ frames := 0, cells := 1, slots := 33, locals := 0 } : Room))
set_option maxRecDepth 65536 in
set_option maxHeartbeats 4000000 in
theorem mt9 (Z : State) (a0 : Array Value) (hw : ∀ d ∈ tables_1, d.before a0 Z = true) (h0 : Heap) (r1 : Value) (hr1 : Rm Z h0 r1) (r2 : Value) (hr2 : Rm Z h0 r2) :
    Met B9_9 Z a0 h0 #[] [] (fun v ds => ∃ a211 : Addr, Ret (some (.ref a211)) [ar a211 (.object "java/lang/Object") [.null, .null, .null, .null, .null, .null, .null, .null, .null, .null, .null, .null, .null, .null, .null, .null, .null, .null, .null, .null, .null, .null, .null, .null, .null, .null, .null, .null, .null, .null, .null, .null, .null]] v ds) := by
  refine Met.of pn9 (ls := #[]) (fun m => by first | (simp [entryFrame, mkF, argsToLocals, Value.category, B9_9]; done) | rfl) ?_
  show Go B9_9 Z a0 h0 _ 0 0 [] 0 #[] []
  refine go_bipush (33 : Int32) 2 rfl d9_0 rfl ?_
  refine go_anewarr 5 rfl d9_2 rfl (wd hw 61 rfl) (wd hw 62 rfl) (by decide) 33 (by decide) (by decide) (by decide) (by decide) (fun a211 => ?_)
  show Go B9_9 Z a0 h0 _ 1 33 [ar a211 (.object "java/lang/Object") [.null, .null, .null, .null, .null, .null, .null, .null, .null, .null, .null, .null, .null, .null, .null, .null, .null, .null, .null, .null, .null, .null, .null, .null, .null, .null, .null, .null, .null, .null, .null, .null, .null]] 5 #[] [(.ref a211)]
  exact go_areturn d9_5 rfl rfl rfl rfl (by decide) (by decide) ⟨a211, rfl, rfl⟩
theorem d11_0 : decode prog_54_method_2_code 0 = .ok (.bipush 33, 2) := by decide +kernel
theorem d11_2 : decode prog_54_method_2_code 2 = .ok (.newarray .int, 2) := by decide +kernel
theorem d11_4 : decode prog_54_method_2_code 4 = .ok (.areturn, 1) := by decide +kernel
theorem pn11 : plainFor (⟨"com/example/layered_locks/layeredlocks/Padded", "ints", "()[I"⟩ : MethodName) = true := by first | (apply plainFor_of_name; simp [plainName, overriddenIn]; done) | decide +kernel
def B11_11 : Bdy := (⟨"com/example/layered_locks/layeredlocks/Padded", "ints", "()[I"⟩, prog_54_method_2_code, 0, (some (.array .int)), ({ frames := 0, cells := 1, slots := 33, locals := 0 } : Room))
set_option maxRecDepth 65536 in
set_option maxHeartbeats 4000000 in
theorem mt11 (Z : State) (a0 : Array Value) (hw : ∀ d ∈ tables_1, d.before a0 Z = true) (h0 : Heap) (r1 : Value) (hr1 : Rm Z h0 r1) (r2 : Value) (hr2 : Rm Z h0 r2) :
    Met B11_11 Z a0 h0 #[] [] (fun v ds => ∃ a313 : Addr, Ret (some (.ref a313)) (mem17 a313) v ds) := by
  refine Met.of pn11 (ls := #[]) (fun m => by first | (simp [entryFrame, mkF, argsToLocals, Value.category, B11_11]; done) | rfl) ?_
  show Go B11_11 Z a0 h0 _ 0 0 [] 0 #[] []
  refine go_bipush (33 : Int32) 2 rfl d11_0 rfl ?_
  refine go_newarr 4 rfl d11_2 rfl (wd hw 50 rfl) (by decide) 33 (by decide) (by decide) (by decide) (by decide) (fun a313 => ?_)
  show Go B11_11 Z a0 h0 _ 1 33 (mem17 a313) 4 #[] [(.ref a313)]
  exact go_areturn d11_4 rfl rfl rfl rfl (by decide) (by decide) ⟨a313, rfl, rfl⟩
theorem d10_0 : decode prog_30_method_1_code 0 = .ok (.aload_n 0, 1) := by decide +kernel
theorem d10_1 : decode prog_30_method_1_code 1 = .ok (.invokespecial 3, 3) := by decide +kernel
theorem d10_4 : decode prog_30_method_1_code 4 = .ok (.aload_n 0, 1) := by decide +kernel
theorem d10_5 : decode prog_30_method_1_code 5 = .ok (.invokestatic 9, 3) := by decide +kernel
theorem d10_8 : decode prog_30_method_1_code 8 = .ok (.putfield 13, 3) := by decide +kernel
theorem d10_11 : decode prog_30_method_1_code 11 = .ok (.aload_n 0, 1) := by decide +kernel
theorem d10_12 : decode prog_30_method_1_code 12 = .ok (.getfield 13, 3) := by decide +kernel
theorem d10_15 : decode prog_30_method_1_code 15 = .ok (.bipush 17, 2) := by decide +kernel
theorem d10_17 : decode prog_30_method_1_code 17 = .ok (.iconst (-1), 1) := by decide +kernel
theorem d10_18 : decode prog_30_method_1_code 18 = .ok (.iastore, 1) := by decide +kernel
theorem d10_19 : decode prog_30_method_1_code 19 = .ok (.return_, 1) := by decide +kernel
theorem pn10 : plainFor (⟨"com/example/layered_locks/layeredlocks/Latch", "<init>", "()V"⟩ : MethodName) = true := by first | (apply plainFor_of_name; simp [plainName, overriddenIn]; done) | decide +kernel
def B10_10 : Bdy := (⟨"com/example/layered_locks/layeredlocks/Latch", "<init>", "()V"⟩, prog_30_method_1_code, 1, none, ({ frames := 1, cells := 1, slots := 33, locals := 12 } : Room))
set_option maxRecDepth 65536 in
set_option maxHeartbeats 4000000 in
theorem mt10 (Z : State) (a0 : Array Value) (hw : ∀ d ∈ tables_1, d.before a0 Z = true) (h0 : Heap) (r1 : Value) (hr1 : Rm Z h0 r1) (r2 : Value) (hr2 : Rm Z h0 r2) (a112 : Addr) :
    Met B10_10 Z a0 h0 #[(.ref a112)] [ob a112 "com/example/layered_locks/layeredlocks/Latch" [("com/example/layered_locks/layeredlocks/Latch", "held", "[I", .null)]] (fun v ds => ∃ a213 : Addr, Ret none (mem20 a213 a112) v ds) := by
  refine Met.of pn10 (ls := #[.val (.ref a112)]) (fun m => by first | (simp [entryFrame, mkF, argsToLocals, Value.category, B10_10]; done) | rfl) ?_
  show Go B10_10 Z a0 h0 _ 0 0 [ob a112 "com/example/layered_locks/layeredlocks/Latch" [("com/example/layered_locks/layeredlocks/Latch", "held", "[I", .null)]] 0 #[.val (.ref a112)] []
  refine go_aloadN 1 rfl d10_0 rfl rfl ?_
  refine go_initObj 4 rfl d10_1 rfl (wd hw 71 rfl) (wd hw 21 rfl) (wd hw 22 rfl) rfl (by decide) (by decide) ?_
  refine go_aloadN 5 rfl d10_4 rfl rfl ?_
  refine go_callS 8 rfl d10_5 (wd hw 72 rfl) (wd hw 73 rfl) (wd hw 59 rfl) (wd hw 74 rfl) (by decide) (Met.frame [ob a112 "com/example/layered_locks/layeredlocks/Latch" [("com/example/layered_locks/layeredlocks/Latch", "held", "[I", .null)]] (mt11 Z a0 hw h0 r1 hr1 r2 hr2)) (argsL := []) (rest := [(.ref a112)]) rfl (ps := []) (by decide +kernel) rfl rfl 1 rfl (by decide) (by decide) (by decide) (by decide) ?_
  rintro _ _ ⟨_, ⟨a213, rfl, rfl⟩, rfl⟩
  show Go B10_10 Z a0 h0 _ 1 33 (mem18 a213 a112) 8 #[.val (.ref a112)] [(.ref a213), (.ref a112)]
  refine go_put 1 0 11 rfl d10_8 rfl rfl rfl (wd hw 75 rfl) (Or.inr ⟨(wd hw 76 rfl), rfl, rfl⟩) (wd hw 66 rfl) (ty := (.array .int)) (by decide) rfl rfl ?_
  show Go B10_10 Z a0 h0 _ 1 33 (mem19 a213 a112) 11 #[.val (.ref a112)] []
  refine go_aloadN 12 rfl d10_11 rfl rfl ?_
  refine go_get 1 0 15 rfl d10_12 rfl rfl rfl (wd hw 75 rfl) ?_
  refine go_bipush (17 : Int32) 17 rfl d10_15 rfl ?_
  refine go_iconst (-1 : Int32) 18 rfl d10_17 rfl ?_
  refine go_iastore 0 19 rfl d10_18 rfl rfl (by decide) (Nat.le_of_ble_eq_true rfl) ?_
  show Go B10_10 Z a0 h0 _ 1 33 (mem20 a213 a112) 19 #[.val (.ref a112)] []
  exact go_return d10_19 rfl rfl (by decide) (by decide) ⟨a213, rfl, rfl⟩
theorem d8_0 : decode prog_1_method_1_code 0 = .ok (.aload_n 0, 1) := by decide +kernel
theorem d8_1 : decode prog_1_method_1_code 1 = .ok (.invokespecial 1, 3) := by decide +kernel
theorem d8_4 : decode prog_1_method_1_code 4 = .ok (.aload_n 0, 1) := by decide +kernel
theorem d8_5 : decode prog_1_method_1_code 5 = .ok (.bipush 16, 2) := by decide +kernel
theorem d8_7 : decode prog_1_method_1_code 7 = .ok (.anewarray 9, 3) := by decide +kernel
theorem d8_10 : decode prog_1_method_1_code 10 = .ok (.putfield 11, 3) := by decide +kernel
theorem d8_13 : decode prog_1_method_1_code 13 = .ok (.aload_n 0, 1) := by decide +kernel
theorem d8_14 : decode prog_1_method_1_code 14 = .ok (.bipush 16, 2) := by decide +kernel
theorem d8_16 : decode prog_1_method_1_code 16 = .ok (.newarray .int, 2) := by decide +kernel
theorem d8_18 : decode prog_1_method_1_code 18 = .ok (.putfield 15, 3) := by decide +kernel
theorem d8_21 : decode prog_1_method_1_code 21 = .ok (.aload_n 0, 1) := by decide +kernel
theorem d8_22 : decode prog_1_method_1_code 22 = .ok (.bipush 16, 2) := by decide +kernel
theorem d8_24 : decode prog_1_method_1_code 24 = .ok (.anewarray 19, 3) := by decide +kernel
theorem d8_27 : decode prog_1_method_1_code 27 = .ok (.putfield 21, 3) := by decide +kernel
theorem d8_30 : decode prog_1_method_1_code 30 = .ok (.aload_n 0, 1) := by decide +kernel
theorem d8_31 : decode prog_1_method_1_code 31 = .ok (.invokestatic 25, 3) := by decide +kernel
theorem d8_34 : decode prog_1_method_1_code 34 = .ok (.putfield 31, 3) := by decide +kernel
theorem d8_37 : decode prog_1_method_1_code 37 = .ok (.aload_n 0, 1) := by decide +kernel
theorem d8_38 : decode prog_1_method_1_code 38 = .ok (.new 35, 3) := by decide +kernel
theorem d8_41 : decode prog_1_method_1_code 41 = .ok (.dup, 1) := by decide +kernel
theorem d8_42 : decode prog_1_method_1_code 42 = .ok (.invokespecial 37, 3) := by decide +kernel
theorem d8_45 : decode prog_1_method_1_code 45 = .ok (.putfield 38, 3) := by decide +kernel
theorem d8_48 : decode prog_1_method_1_code 48 = .ok (.return_, 1) := by decide +kernel
theorem pn8 : plainFor (⟨"com/example/layered_locks/layeredlocks/AloneLocks", "<init>", "()V"⟩ : MethodName) = true := by first | (apply plainFor_of_name; simp [plainName, overriddenIn]; done) | decide +kernel
def B8_8 : Bdy := (⟨"com/example/layered_locks/layeredlocks/AloneLocks", "<init>", "()V"⟩, prog_1_method_1_code, 1, none, ({ frames := 2, cells := 6, slots := 115, locals := 26 } : Room))
set_option maxRecDepth 65536 in
set_option maxHeartbeats 4000000 in
theorem mt8 (Z : State) (a0 : Array Value) (hw : ∀ d ∈ tables_1, d.before a0 Z = true) (h0 : Heap) (r1 : Value) (hr1 : Rm Z h0 r1) (r2 : Value) (hr2 : Rm Z h0 r2) (a7 : Addr) :
    Met B8_8 Z a0 h0 #[(.ref a7)] (mem6 a7) (fun v ds => ∃ a113 a112 a111 a108 a109 a110 : Addr, Ret none (mem22 a113 a112 a111 a7 a108 a109 a110) v ds) := by
  refine Met.of pn8 (ls := #[.val (.ref a7)]) (fun m => by first | (simp [entryFrame, mkF, argsToLocals, Value.category, B8_8]; done) | rfl) ?_
  show Go B8_8 Z a0 h0 _ 0 0 (mem6 a7) 0 #[.val (.ref a7)] []
  refine go_aloadN 1 rfl d8_0 rfl rfl ?_
  refine go_initObj 4 rfl d8_1 rfl (wd hw 45 rfl) (wd hw 21 rfl) (wd hw 22 rfl) rfl (by decide) (by decide) ?_
  refine go_aloadN 5 rfl d8_4 rfl rfl ?_
  refine go_bipush (16 : Int32) 7 rfl d8_5 rfl ?_
  refine go_anewarr 10 rfl d8_7 rfl (wd hw 46 rfl) (wd hw 47 rfl) (by decide) 16 (by decide) (by decide) (by decide) (by decide) (fun a108 => ?_)
  show Go B8_8 Z a0 h0 _ 1 16 (mem7 a7 a108) 10 #[.val (.ref a7)] [(.ref a108), (.ref a7)]
  refine go_put 0 0 13 rfl d8_10 rfl rfl rfl (wd hw 48 rfl) (Or.inr ⟨(wd hw 49 rfl), rfl, rfl⟩) (wd hw 40 rfl) (ty := (.array (.object "java/lang/String"))) (by decide) rfl rfl ?_
  show Go B8_8 Z a0 h0 _ 1 16 (mem8 a7 a108) 13 #[.val (.ref a7)] []
  refine go_aloadN 14 rfl d8_13 rfl rfl ?_
  refine go_bipush (16 : Int32) 16 rfl d8_14 rfl ?_
  refine go_newarr 18 rfl d8_16 rfl (wd hw 50 rfl) (by decide) 16 (by decide) (by decide) (by decide) (by decide) (fun a109 => ?_)
  show Go B8_8 Z a0 h0 _ 2 32 (mem9 a7 a108 a109) 18 #[.val (.ref a7)] [(.ref a109), (.ref a7)]
  refine go_put 0 1 21 rfl d8_18 rfl rfl rfl (wd hw 51 rfl) (Or.inr ⟨(wd hw 52 rfl), rfl, rfl⟩) (wd hw 40 rfl) (ty := (.array .int)) (by decide) rfl rfl ?_
  show Go B8_8 Z a0 h0 _ 2 32 (mem10 a7 a108 a109) 21 #[.val (.ref a7)] []
  refine go_aloadN 22 rfl d8_21 rfl rfl ?_
  refine go_bipush (16 : Int32) 24 rfl d8_22 rfl ?_
  refine go_anewarr 27 rfl d8_24 rfl (wd hw 53 rfl) (wd hw 54 rfl) (by decide) 16 (by decide) (by decide) (by decide) (by decide) (fun a110 => ?_)
  show Go B8_8 Z a0 h0 _ 3 48 (mem11 a7 a108 a109 a110) 27 #[.val (.ref a7)] [(.ref a110), (.ref a7)]
  refine go_put 0 2 30 rfl d8_27 rfl rfl rfl (wd hw 55 rfl) (Or.inr ⟨(wd hw 56 rfl), rfl, rfl⟩) (wd hw 40 rfl) (ty := (.array (.object "com/example/layered_locks/layeredlocks/LockMode"))) (by decide) rfl rfl ?_
  show Go B8_8 Z a0 h0 _ 3 48 (mem12 a7 a108 a109 a110) 30 #[.val (.ref a7)] []
  refine go_aloadN 31 rfl d8_30 rfl rfl ?_
  refine go_callS 34 rfl d8_31 (wd hw 57 rfl) (wd hw 58 rfl) (wd hw 59 rfl) (wd hw 60 rfl) (by decide) (Met.frame (mem12 a7 a108 a109 a110) (mt9 Z a0 hw h0 r1 hr1 r2 hr2)) (argsL := []) (rest := [(.ref a7)]) rfl (ps := []) (by decide +kernel) rfl rfl 1 rfl (by decide) (by decide) (by decide) (by decide) ?_
  rintro _ _ ⟨_, ⟨a111, rfl, rfl⟩, rfl⟩
  show Go B8_8 Z a0 h0 _ 4 81 (mem13 a111 a7 a108 a109 a110) 34 #[.val (.ref a7)] [(.ref a111), (.ref a7)]
  refine go_put 1 3 37 rfl d8_34 rfl rfl rfl (wd hw 63 rfl) (Or.inr ⟨(wd hw 64 rfl), rfl, rfl⟩) (wd hw 40 rfl) (ty := (.array (.object "java/lang/Object"))) (by decide) rfl rfl ?_
  show Go B8_8 Z a0 h0 _ 4 81 (mem14 a111 a7 a108 a109 a110) 37 #[.val (.ref a7)] []
  refine go_aloadN 38 rfl d8_37 rfl rfl ?_
  refine go_new 41 rfl d8_38 (wd hw 65 rfl) (wd hw 66 rfl) (wd hw 67 rfl) (by decide) (by decide) [("com/example/layered_locks/layeredlocks/Latch", "held", "[I", .null)] ⟨⟨Or.inr (wd hw 76 rfl), _, rfl, rfl⟩, trivial⟩ (by decide) (fun a112 => ?_)
  show Go B8_8 Z a0 h0 _ 5 82 (mem15 a111 a7 a108 a109 a110 a112) 41 #[.val (.ref a7)] [(.ref a112), (.ref a7)]
  refine go_dup 42 rfl d8_41 rfl rfl ?_
  refine Go.front 5 (Nat.le_of_ble_eq_true rfl) ?_
  show Go B8_8 Z a0 h0 _ 5 82 (mem16 a112 a111 a7 a108 a109 a110) 42 #[.val (.ref a7)] [(.ref a112), (.ref a112), (.ref a7)]
  refine go_callI 45 rfl d8_42 rfl (wd hw 68 rfl) (wd hw 69 rfl) (wd hw 67 rfl) (wd hw 70 rfl) (by decide) (Met.frame (mem14 a111 a7 a108 a109 a110) (mt10 Z a0 hw h0 r1 hr1 r2 hr2 a112)) (argsL := []) (rest := [(.ref a112), (.ref a7)]) rfl (ret := none) (ps := []) (by decide +kernel) rfl rfl 2 rfl (by decide) (by decide) (by decide) (by decide) ?_
  rintro _ _ ⟨_, ⟨a113, rfl, rfl⟩, rfl⟩
  show Go B8_8 Z a0 h0 _ 6 115 (mem21 a113 a112 a111 a7 a108 a109 a110) 45 #[.val (.ref a7)] [(.ref a112), (.ref a7)]
  refine go_put 3 4 48 rfl d8_45 rfl rfl rfl (wd hw 77 rfl) (Or.inr ⟨(wd hw 78 rfl), rfl, rfl⟩) (wd hw 40 rfl) (ty := (.object "com/example/layered_locks/layeredlocks/Latch")) (by decide) rfl rfl ?_
  show Go B8_8 Z a0 h0 _ 6 115 (mem22 a113 a112 a111 a7 a108 a109 a110) 48 #[.val (.ref a7)] []
  exact go_return d8_48 rfl rfl (by decide) (by decide) ⟨a113, a112, a111, a108, a109, a110, rfl, rfl⟩
theorem d12_0 : decode prog_1_method_7_code 0 = .ok (.aload_n 0, 1) := by decide +kernel
theorem d12_1 : decode prog_1_method_7_code 1 = .ok (.getfield 11, 3) := by decide +kernel
theorem d12_4 : decode prog_1_method_7_code 4 = .ok (.aload_n 0, 1) := by decide +kernel
theorem d12_5 : decode prog_1_method_7_code 5 = .ok (.getfield 42, 3) := by decide +kernel
theorem d12_8 : decode prog_1_method_7_code 8 = .ok (.aload_n 1, 1) := by decide +kernel
theorem d12_9 : decode prog_1_method_7_code 9 = .ok (.aastore, 1) := by decide +kernel
theorem d12_10 : decode prog_1_method_7_code 10 = .ok (.aload_n 0, 1) := by decide +kernel
theorem d12_11 : decode prog_1_method_7_code 11 = .ok (.getfield 15, 3) := by decide +kernel
theorem d12_14 : decode prog_1_method_7_code 14 = .ok (.aload_n 0, 1) := by decide +kernel
theorem d12_15 : decode prog_1_method_7_code 15 = .ok (.getfield 42, 3) := by decide +kernel
theorem d12_18 : decode prog_1_method_7_code 18 = .ok (.iload_n 2, 1) := by decide +kernel
theorem d12_19 : decode prog_1_method_7_code 19 = .ok (.iastore, 1) := by decide +kernel
theorem d12_20 : decode prog_1_method_7_code 20 = .ok (.aload_n 0, 1) := by decide +kernel
theorem d12_21 : decode prog_1_method_7_code 21 = .ok (.getfield 21, 3) := by decide +kernel
theorem d12_24 : decode prog_1_method_7_code 24 = .ok (.aload_n 0, 1) := by decide +kernel
theorem d12_25 : decode prog_1_method_7_code 25 = .ok (.getfield 42, 3) := by decide +kernel
theorem d12_28 : decode prog_1_method_7_code 28 = .ok (.aload_n 3, 1) := by decide +kernel
theorem d12_29 : decode prog_1_method_7_code 29 = .ok (.aastore, 1) := by decide +kernel
theorem d12_30 : decode prog_1_method_7_code 30 = .ok (.aload_n 0, 1) := by decide +kernel
theorem d12_31 : decode prog_1_method_7_code 31 = .ok (.dup, 1) := by decide +kernel
theorem d12_32 : decode prog_1_method_7_code 32 = .ok (.getfield 42, 3) := by decide +kernel
theorem d12_35 : decode prog_1_method_7_code 35 = .ok (.iconst 1, 1) := by decide +kernel
theorem d12_36 : decode prog_1_method_7_code 36 = .ok (.iadd, 1) := by decide +kernel
theorem d12_37 : decode prog_1_method_7_code 37 = .ok (.putfield 42, 3) := by decide +kernel
theorem d12_40 : decode prog_1_method_7_code 40 = .ok (.return_, 1) := by decide +kernel
theorem pn12 : plainFor (⟨"com/example/layered_locks/layeredlocks/AloneLocks", "add", "(Ljava/lang/String;ILcom/example/layered_locks/layeredlocks/LockMode;)V"⟩ : MethodName) = true := by first | (apply plainFor_of_name; simp [plainName, overriddenIn]; done) | decide +kernel
def B12_12 : Bdy := (⟨"com/example/layered_locks/layeredlocks/AloneLocks", "add", "(Ljava/lang/String;ILcom/example/layered_locks/layeredlocks/LockMode;)V"⟩, prog_1_method_7_code, 4, none, ({ frames := 0, cells := 0, slots := 0, locals := 0 } : Room))
set_option maxRecDepth 65536 in
set_option maxHeartbeats 4000000 in
theorem mt12 (Z : State) (a0 : Array Value) (hw : ∀ d ∈ tables_1, d.before a0 Z = true) (h0 : Heap) (r1 : Value) (hr1 : Rm Z h0 r1) (r2 : Value) (hr2 : Rm Z h0 r2) (a7 : Addr) (a11 : Addr) (a12 : Addr) (a13 : Addr) (a10 : Addr) (a9 : Addr) (a2 : Addr) (a3 : Addr) (p2 : Int32) :
    Met B12_12 Z a0 h0 #[(.ref a7), (.ref a2), (.int p2), r1] (mem25 a7 a11 a12 a13 a10 a9 a2 a3) (Ret none (mem29 a7 a11 a12 a13 a10 a9 a2 p2 r1 a3)) := by
  refine Met.of pn12 (ls := #[.val (.ref a7), .val (.ref a2), .val (.int p2), .val r1]) (fun m => by rcases ref_cases hr1.isR with rfl | ⟨_, rfl⟩ <;> first | (simp [entryFrame, mkF, argsToLocals, Value.category, B12_12]; done) | rfl) ?_
  show Go B12_12 Z a0 h0 _ 0 0 (mem25 a7 a11 a12 a13 a10 a9 a2 a3) 0 #[.val (.ref a7), .val (.ref a2), .val (.int p2), .val r1] []
  refine go_aloadN 1 rfl d12_0 rfl rfl ?_
  refine go_get 0 0 4 rfl d12_1 rfl rfl rfl (wd hw 48 rfl) ?_
  refine go_aloadN 5 rfl d12_4 rfl rfl ?_
  refine go_get 0 5 8 rfl d12_5 rfl rfl rfl (wd hw 84 rfl) ?_
  refine go_aloadN 9 rfl d12_8 rfl rfl ?_
  refine go_aastore 1 10 rfl d12_9 rfl rfl rfl (by decide) (Nat.le_of_ble_eq_true rfl) (Mo.sto (i := 1) rfl (fun h M => Ins.self (Mo.exa (i := 4) rfl h M))) ?_
  show Go B12_12 Z a0 h0 _ 0 0 (mem26 a7 a11 a12 a13 a10 a9 a2 a3) 10 #[.val (.ref a7), .val (.ref a2), .val (.int p2), .val r1] []
  refine go_aloadN 11 rfl d12_10 rfl rfl ?_
  refine go_get 0 1 14 rfl d12_11 rfl rfl rfl (wd hw 51 rfl) ?_
  refine go_aloadN 15 rfl d12_14 rfl rfl ?_
  refine go_get 0 5 18 rfl d12_15 rfl rfl rfl (wd hw 84 rfl) ?_
  refine go_iloadN 19 rfl d12_18 rfl ?_
  refine go_iastore 2 20 rfl d12_19 rfl rfl (by decide) (Nat.le_of_ble_eq_true rfl) ?_
  show Go B12_12 Z a0 h0 _ 0 0 (mem27 a7 a11 a12 a13 a10 a9 a2 p2 a3) 20 #[.val (.ref a7), .val (.ref a2), .val (.int p2), .val r1] []
  refine go_aloadN 21 rfl d12_20 rfl rfl ?_
  refine go_get 0 2 24 rfl d12_21 rfl rfl rfl (wd hw 55 rfl) ?_
  refine go_aloadN 25 rfl d12_24 rfl rfl ?_
  refine go_get 0 5 28 rfl d12_25 rfl rfl rfl (wd hw 84 rfl) ?_
  refine go_aloadN 29 rfl d12_28 rfl hr1.isR ?_
  refine go_aastore 3 30 rfl d12_29 rfl rfl rfl (by decide) (Nat.le_of_ble_eq_true rfl) (hr1.sto (i := 3) rfl) ?_
  show Go B12_12 Z a0 h0 _ 0 0 (mem28 a7 a11 a12 a13 a10 a9 a2 p2 r1 a3) 30 #[.val (.ref a7), .val (.ref a2), .val (.int p2), .val r1] []
  refine go_aloadN 31 rfl d12_30 rfl rfl ?_
  refine go_dup 32 rfl d12_31 rfl rfl ?_
  refine go_get 0 5 35 rfl d12_32 rfl rfl rfl (wd hw 84 rfl) ?_
  refine go_iconst (1 : Int32) 36 rfl d12_35 rfl ?_
  refine go_iadd 37 rfl d12_36 rfl ?_
  show Go B12_12 Z a0 h0 _ 0 0 (mem28 a7 a11 a12 a13 a10 a9 a2 p2 r1 a3) 37 #[.val (.ref a7), .val (.ref a2), .val (.int p2), .val r1] [(.int (1 : Int32)), (.ref a7)]
  refine go_put 0 5 40 rfl d12_37 rfl rfl rfl (wd hw 84 rfl) (Or.inl (wd hw 85 rfl)) (wd hw 40 rfl) (ty := .int) (by decide) rfl rfl ?_
  show Go B12_12 Z a0 h0 _ 0 0 (mem29 a7 a11 a12 a13 a10 a9 a2 p2 r1 a3) 40 #[.val (.ref a7), .val (.ref a2), .val (.int p2), .val r1] []
  exact go_return d12_40 rfl rfl (by decide) (by decide) ⟨rfl, rfl⟩
theorem d13_0 : decode prog_1_method_2_code 0 = .ok (.aload_n 0, 1) := by decide +kernel
theorem d13_1 : decode prog_1_method_2_code 1 = .ok (.getfield 42, 3) := by decide +kernel
theorem d13_4 : decode prog_1_method_2_code 4 = .ok (.ireturn, 1) := by decide +kernel
theorem pn13 : plainFor (⟨"com/example/layered_locks/layeredlocks/AloneLocks", "size", "()I"⟩ : MethodName) = true := by first | (apply plainFor_of_name; simp [plainName, overriddenIn]; done) | decide +kernel
def B13_13 : Bdy := (⟨"com/example/layered_locks/layeredlocks/AloneLocks", "size", "()I"⟩, prog_1_method_2_code, 1, (some .int), ({ frames := 0, cells := 0, slots := 0, locals := 0 } : Room))
set_option maxRecDepth 65536 in
set_option maxHeartbeats 4000000 in
theorem mt13 (Z : State) (a0 : Array Value) (hw : ∀ d ∈ tables_1, d.before a0 Z = true) (h0 : Heap) (r1 : Value) (hr1 : Rm Z h0 r1) (r2 : Value) (hr2 : Rm Z h0 r2) (a7 : Addr) (a11 : Addr) (a12 : Addr) (a13 : Addr) (a10 : Addr) (a9 : Addr) (a2 : Addr) (p2 : Int32) (a3 : Addr) :
    Met B13_13 Z a0 h0 #[(.ref a7)] (mem29 a7 a11 a12 a13 a10 a9 a2 p2 r1 a3) (Ret (some (.int (1 : Int32))) (mem29 a7 a11 a12 a13 a10 a9 a2 p2 r1 a3)) := by
  refine Met.of pn13 (ls := #[.val (.ref a7)]) (fun m => by first | (simp [entryFrame, mkF, argsToLocals, Value.category, B13_13]; done) | rfl) ?_
  show Go B13_13 Z a0 h0 _ 0 0 (mem29 a7 a11 a12 a13 a10 a9 a2 p2 r1 a3) 0 #[.val (.ref a7)] []
  refine go_aloadN 1 rfl d13_0 rfl rfl ?_
  refine go_get 0 5 4 rfl d13_1 rfl rfl rfl (wd hw 84 rfl) ?_
  exact go_ireturn d13_4 rfl (Or.inl rfl) rfl rfl (by decide) (by decide) ⟨rfl, rfl⟩
theorem d14_0 : decode prog_1_method_3_code 0 = .ok (.aload_n 0, 1) := by decide +kernel
theorem d14_1 : decode prog_1_method_3_code 1 = .ok (.getfield 11, 3) := by decide +kernel
theorem d14_4 : decode prog_1_method_3_code 4 = .ok (.iload_n 1, 1) := by decide +kernel
theorem d14_5 : decode prog_1_method_3_code 5 = .ok (.aaload, 1) := by decide +kernel
theorem d14_6 : decode prog_1_method_3_code 6 = .ok (.areturn, 1) := by decide +kernel
theorem pn14 : plainFor (⟨"com/example/layered_locks/layeredlocks/AloneLocks", "path", "(I)Ljava/lang/String;"⟩ : MethodName) = true := by first | (apply plainFor_of_name; simp [plainName, overriddenIn]; done) | decide +kernel
def B14_14 : Bdy := (⟨"com/example/layered_locks/layeredlocks/AloneLocks", "path", "(I)Ljava/lang/String;"⟩, prog_1_method_3_code, 2, (some (.object "java/lang/String")), ({ frames := 0, cells := 0, slots := 0, locals := 0 } : Room))
set_option maxRecDepth 65536 in
set_option maxHeartbeats 4000000 in
theorem mt14 (Z : State) (a0 : Array Value) (hw : ∀ d ∈ tables_1, d.before a0 Z = true) (h0 : Heap) (r1 : Value) (hr1 : Rm Z h0 r1) (r2 : Value) (hr2 : Rm Z h0 r2) (a7 : Addr) (a11 : Addr) (a12 : Addr) (a13 : Addr) (a10 : Addr) (a9 : Addr) (a2 : Addr) (p2 : Int32) (a3 : Addr) :
    Met B14_14 Z a0 h0 #[(.ref a7), (.int (0 : Int32))] (mem29 a7 a11 a12 a13 a10 a9 a2 p2 r1 a3) (Ret (some (.ref a2)) (mem29 a7 a11 a12 a13 a10 a9 a2 p2 r1 a3)) := by
  refine Met.of pn14 (ls := #[.val (.ref a7), .val (.int (0 : Int32))]) (fun m => by first | (simp [entryFrame, mkF, argsToLocals, Value.category, B14_14]; done) | rfl) ?_
  show Go B14_14 Z a0 h0 _ 0 0 (mem29 a7 a11 a12 a13 a10 a9 a2 p2 r1 a3) 0 #[.val (.ref a7), .val (.int (0 : Int32))] []
  refine go_aloadN 1 rfl d14_0 rfl rfl ?_
  refine go_get 0 0 4 rfl d14_1 rfl rfl rfl (wd hw 48 rfl) ?_
  refine go_iloadN 5 rfl d14_4 rfl ?_
  refine go_aaload 6 rfl d14_5 rfl rfl (Mo.el (i := 1) rfl (by decide) rfl) ?_
  exact go_areturn d14_6 rfl rfl rfl rfl (by decide) (by decide) ⟨rfl, rfl⟩
theorem d15_0 : decode prog_1_method_4_code 0 = .ok (.aload_n 0, 1) := by decide +kernel
theorem d15_1 : decode prog_1_method_4_code 1 = .ok (.getfield 15, 3) := by decide +kernel
theorem d15_4 : decode prog_1_method_4_code 4 = .ok (.iload_n 1, 1) := by decide +kernel
theorem d15_5 : decode prog_1_method_4_code 5 = .ok (.iaload, 1) := by decide +kernel
theorem d15_6 : decode prog_1_method_4_code 6 = .ok (.ireturn, 1) := by decide +kernel
theorem pn15 : plainFor (⟨"com/example/layered_locks/layeredlocks/AloneLocks", "length", "(I)I"⟩ : MethodName) = true := by first | (apply plainFor_of_name; simp [plainName, overriddenIn]; done) | decide +kernel
def B15_15 : Bdy := (⟨"com/example/layered_locks/layeredlocks/AloneLocks", "length", "(I)I"⟩, prog_1_method_4_code, 2, (some .int), ({ frames := 0, cells := 0, slots := 0, locals := 0 } : Room))
set_option maxRecDepth 65536 in
set_option maxHeartbeats 4000000 in
theorem mt15 (Z : State) (a0 : Array Value) (hw : ∀ d ∈ tables_1, d.before a0 Z = true) (h0 : Heap) (r1 : Value) (hr1 : Rm Z h0 r1) (r2 : Value) (hr2 : Rm Z h0 r2) (a7 : Addr) (a11 : Addr) (a12 : Addr) (a13 : Addr) (a10 : Addr) (a9 : Addr) (a2 : Addr) (p2 : Int32) (a3 : Addr) :
    Met B15_15 Z a0 h0 #[(.ref a7), (.int (0 : Int32))] (mem29 a7 a11 a12 a13 a10 a9 a2 p2 r1 a3) (Ret (some (.int p2)) (mem29 a7 a11 a12 a13 a10 a9 a2 p2 r1 a3)) := by
  refine Met.of pn15 (ls := #[.val (.ref a7), .val (.int (0 : Int32))]) (fun m => by first | (simp [entryFrame, mkF, argsToLocals, Value.category, B15_15]; done) | rfl) ?_
  show Go B15_15 Z a0 h0 _ 0 0 (mem29 a7 a11 a12 a13 a10 a9 a2 p2 r1 a3) 0 #[.val (.ref a7), .val (.int (0 : Int32))] []
  refine go_aloadN 1 rfl d15_0 rfl rfl ?_
  refine go_get 0 1 4 rfl d15_1 rfl rfl rfl (wd hw 51 rfl) ?_
  refine go_iloadN 5 rfl d15_4 rfl ?_
  refine go_iaload 6 rfl d15_5 rfl (Mo.el (i := 2) rfl (by decide) rfl) ?_
  exact go_ireturn d15_6 rfl (Or.inl rfl) rfl rfl (by decide) (by decide) ⟨rfl, rfl⟩
theorem d16_0 : decode prog_1_method_5_code 0 = .ok (.aload_n 0, 1) := by decide +kernel
theorem d16_1 : decode prog_1_method_5_code 1 = .ok (.getfield 21, 3) := by decide +kernel
theorem d16_4 : decode prog_1_method_5_code 4 = .ok (.iload_n 1, 1) := by decide +kernel
theorem d16_5 : decode prog_1_method_5_code 5 = .ok (.aaload, 1) := by decide +kernel
theorem d16_6 : decode prog_1_method_5_code 6 = .ok (.areturn, 1) := by decide +kernel
theorem pn16 : plainFor (⟨"com/example/layered_locks/layeredlocks/AloneLocks", "mode", "(I)Lcom/example/layered_locks/layeredlocks/LockMode;"⟩ : MethodName) = true := by first | (apply plainFor_of_name; simp [plainName, overriddenIn]; done) | decide +kernel
def B16_16 : Bdy := (⟨"com/example/layered_locks/layeredlocks/AloneLocks", "mode", "(I)Lcom/example/layered_locks/layeredlocks/LockMode;"⟩, prog_1_method_5_code, 2, (some (.object "com/example/layered_locks/layeredlocks/LockMode")), ({ frames := 0, cells := 0, slots := 0, locals := 0 } : Room))
set_option maxRecDepth 65536 in
set_option maxHeartbeats 4000000 in
theorem mt16 (Z : State) (a0 : Array Value) (hw : ∀ d ∈ tables_1, d.before a0 Z = true) (h0 : Heap) (r1 : Value) (hr1 : Rm Z h0 r1) (r2 : Value) (hr2 : Rm Z h0 r2) (a7 : Addr) (a11 : Addr) (a12 : Addr) (a13 : Addr) (a10 : Addr) (a9 : Addr) (a2 : Addr) (p2 : Int32) (a3 : Addr) :
    Met B16_16 Z a0 h0 #[(.ref a7), (.int (0 : Int32))] (mem29 a7 a11 a12 a13 a10 a9 a2 p2 r1 a3) (Ret (some r1) (mem29 a7 a11 a12 a13 a10 a9 a2 p2 r1 a3)) := by
  refine Met.of pn16 (ls := #[.val (.ref a7), .val (.int (0 : Int32))]) (fun m => by first | (simp [entryFrame, mkF, argsToLocals, Value.category, B16_16]; done) | rfl) ?_
  show Go B16_16 Z a0 h0 _ 0 0 (mem29 a7 a11 a12 a13 a10 a9 a2 p2 r1 a3) 0 #[.val (.ref a7), .val (.int (0 : Int32))] []
  refine go_aloadN 1 rfl d16_0 rfl rfl ?_
  refine go_get 0 2 4 rfl d16_1 rfl rfl rfl (wd hw 55 rfl) ?_
  refine go_iloadN 5 rfl d16_4 rfl ?_
  refine go_aaload 6 rfl d16_5 rfl rfl (Mo.el (i := 3) rfl (by decide) rfl) ?_
  exact go_areturn d16_6 rfl rfl hr1.isR rfl (by decide) (by decide) ⟨rfl, rfl⟩
def B14_17 : Bdy := (⟨"com/example/layered_locks/layeredlocks/AloneLocks", "path", "(I)Ljava/lang/String;"⟩, prog_1_method_3_code, 2, (some (.object "java/lang/String")), ({ frames := 0, cells := 0, slots := 0, locals := 0 } : Room))
set_option maxRecDepth 65536 in
set_option maxHeartbeats 4000000 in
theorem mt17 (Z : State) (a0 : Array Value) (hw : ∀ d ∈ tables_1, d.before a0 Z = true) (h0 : Heap) (r1 : Value) (hr1 : Rm Z h0 r1) (r2 : Value) (hr2 : Rm Z h0 r2) (a7 : Addr) (a11 : Addr) (a12 : Addr) (a13 : Addr) (a10 : Addr) (a9 : Addr) (a2 : Addr) (p2 : Int32) (a3 : Addr) :
    Met B14_17 Z a0 h0 #[(.ref a7), (.int (1 : Int32))] (mem29 a7 a11 a12 a13 a10 a9 a2 p2 r1 a3) (Ret (some .null) (mem29 a7 a11 a12 a13 a10 a9 a2 p2 r1 a3)) := by
  refine Met.of pn14 (ls := #[.val (.ref a7), .val (.int (1 : Int32))]) (fun m => by first | (simp [entryFrame, mkF, argsToLocals, Value.category, B14_17]; done) | rfl) ?_
  show Go B14_17 Z a0 h0 _ 0 0 (mem29 a7 a11 a12 a13 a10 a9 a2 p2 r1 a3) 0 #[.val (.ref a7), .val (.int (1 : Int32))] []
  refine go_aloadN 1 rfl d14_0 rfl rfl ?_
  refine go_get 0 0 4 rfl d14_1 rfl rfl rfl (wd hw 48 rfl) ?_
  refine go_iloadN 5 rfl d14_4 rfl ?_
  refine go_aaload 6 rfl d14_5 rfl rfl (Mo.el (i := 1) rfl (by decide) rfl) ?_
  exact go_areturn d14_6 rfl rfl rfl rfl (by decide) (by decide) ⟨rfl, rfl⟩
def B12_19 : Bdy := (⟨"com/example/layered_locks/layeredlocks/AloneLocks", "add", "(Ljava/lang/String;ILcom/example/layered_locks/layeredlocks/LockMode;)V"⟩, prog_1_method_7_code, 4, none, ({ frames := 0, cells := 0, slots := 0, locals := 0 } : Room))
set_option maxRecDepth 65536 in
set_option maxHeartbeats 4000000 in
theorem mt19 (Z : State) (a0 : Array Value) (hw : ∀ d ∈ tables_1, d.before a0 Z = true) (h0 : Heap) (r1 : Value) (hr1 : Rm Z h0 r1) (r2 : Value) (hr2 : Rm Z h0 r2) (a27 : Addr) (a31 : Addr) (a32 : Addr) (a33 : Addr) (a30 : Addr) (a29 : Addr) (a25 : Addr) (a26 : Addr) (p5 : Int32) :
    Met B12_19 Z a0 h0 #[(.ref a27), (.ref a25), (.int p5), r2] (mem25 a27 a31 a32 a33 a30 a29 a25 a26) (Ret none (mem29 a27 a31 a32 a33 a30 a29 a25 p5 r2 a26)) := by
  refine Met.of pn12 (ls := #[.val (.ref a27), .val (.ref a25), .val (.int p5), .val r2]) (fun m => by rcases ref_cases hr2.isR with rfl | ⟨_, rfl⟩ <;> first | (simp [entryFrame, mkF, argsToLocals, Value.category, B12_19]; done) | rfl) ?_
  show Go B12_19 Z a0 h0 _ 0 0 (mem25 a27 a31 a32 a33 a30 a29 a25 a26) 0 #[.val (.ref a27), .val (.ref a25), .val (.int p5), .val r2] []
  refine go_aloadN 1 rfl d12_0 rfl rfl ?_
  refine go_get 0 0 4 rfl d12_1 rfl rfl rfl (wd hw 48 rfl) ?_
  refine go_aloadN 5 rfl d12_4 rfl rfl ?_
  refine go_get 0 5 8 rfl d12_5 rfl rfl rfl (wd hw 84 rfl) ?_
  refine go_aloadN 9 rfl d12_8 rfl rfl ?_
  refine go_aastore 1 10 rfl d12_9 rfl rfl rfl (by decide) (Nat.le_of_ble_eq_true rfl) (Mo.sto (i := 1) rfl (fun h M => Ins.self (Mo.exa (i := 4) rfl h M))) ?_
  show Go B12_19 Z a0 h0 _ 0 0 (mem26 a27 a31 a32 a33 a30 a29 a25 a26) 10 #[.val (.ref a27), .val (.ref a25), .val (.int p5), .val r2] []
  refine go_aloadN 11 rfl d12_10 rfl rfl ?_
  refine go_get 0 1 14 rfl d12_11 rfl rfl rfl (wd hw 51 rfl) ?_
  refine go_aloadN 15 rfl d12_14 rfl rfl ?_
  refine go_get 0 5 18 rfl d12_15 rfl rfl rfl (wd hw 84 rfl) ?_
  refine go_iloadN 19 rfl d12_18 rfl ?_
  refine go_iastore 2 20 rfl d12_19 rfl rfl (by decide) (Nat.le_of_ble_eq_true rfl) ?_
  show Go B12_19 Z a0 h0 _ 0 0 (mem27 a27 a31 a32 a33 a30 a29 a25 p5 a26) 20 #[.val (.ref a27), .val (.ref a25), .val (.int p5), .val r2] []
  refine go_aloadN 21 rfl d12_20 rfl rfl ?_
  refine go_get 0 2 24 rfl d12_21 rfl rfl rfl (wd hw 55 rfl) ?_
  refine go_aloadN 25 rfl d12_24 rfl rfl ?_
  refine go_get 0 5 28 rfl d12_25 rfl rfl rfl (wd hw 84 rfl) ?_
  refine go_aloadN 29 rfl d12_28 rfl hr2.isR ?_
  refine go_aastore 3 30 rfl d12_29 rfl rfl rfl (by decide) (Nat.le_of_ble_eq_true rfl) (hr2.sto (i := 3) rfl) ?_
  show Go B12_19 Z a0 h0 _ 0 0 (mem28 a27 a31 a32 a33 a30 a29 a25 p5 r2 a26) 30 #[.val (.ref a27), .val (.ref a25), .val (.int p5), .val r2] []
  refine go_aloadN 31 rfl d12_30 rfl rfl ?_
  refine go_dup 32 rfl d12_31 rfl rfl ?_
  refine go_get 0 5 35 rfl d12_32 rfl rfl rfl (wd hw 84 rfl) ?_
  refine go_iconst (1 : Int32) 36 rfl d12_35 rfl ?_
  refine go_iadd 37 rfl d12_36 rfl ?_
  show Go B12_19 Z a0 h0 _ 0 0 (mem28 a27 a31 a32 a33 a30 a29 a25 p5 r2 a26) 37 #[.val (.ref a27), .val (.ref a25), .val (.int p5), .val r2] [(.int (1 : Int32)), (.ref a27)]
  refine go_put 0 5 40 rfl d12_37 rfl rfl rfl (wd hw 84 rfl) (Or.inl (wd hw 85 rfl)) (wd hw 40 rfl) (ty := .int) (by decide) rfl rfl ?_
  show Go B12_19 Z a0 h0 _ 0 0 (mem29 a27 a31 a32 a33 a30 a29 a25 p5 r2 a26) 40 #[.val (.ref a27), .val (.ref a25), .val (.int p5), .val r2] []
  exact go_return d12_40 rfl rfl (by decide) (by decide) ⟨rfl, rfl⟩
def B12_20 : Bdy := (⟨"com/example/layered_locks/layeredlocks/AloneLocks", "add", "(Ljava/lang/String;ILcom/example/layered_locks/layeredlocks/LockMode;)V"⟩, prog_1_method_7_code, 4, none, ({ frames := 0, cells := 0, slots := 0, locals := 0 } : Room))
set_option maxRecDepth 65536 in
set_option maxHeartbeats 4000000 in
theorem mt20 (Z : State) (a0 : Array Value) (hw : ∀ d ∈ tables_1, d.before a0 Z = true) (h0 : Heap) (r1 : Value) (hr1 : Rm Z h0 r1) (r2 : Value) (hr2 : Rm Z h0 r2) (a27 : Addr) (a31 : Addr) (a32 : Addr) (a33 : Addr) (a30 : Addr) (a29 : Addr) (a25 : Addr) (p5 : Int32) (a26 : Addr) (a22 : Addr) (a23 : Addr) (p2 : Int32) :
    Met B12_20 Z a0 h0 #[(.ref a27), (.ref a22), (.int p2), r1] (mem30 a27 a31 a32 a33 a30 a29 a25 p5 r2 a26 a22 a23) (Ret none (mem34 a27 a31 a32 a33 a30 a29 a25 a22 p5 p2 r2 r1 a26 a23)) := by
  refine Met.of pn12 (ls := #[.val (.ref a27), .val (.ref a22), .val (.int p2), .val r1]) (fun m => by rcases ref_cases hr1.isR with rfl | ⟨_, rfl⟩ <;> first | (simp [entryFrame, mkF, argsToLocals, Value.category, B12_20]; done) | rfl) ?_
  show Go B12_20 Z a0 h0 _ 0 0 (mem30 a27 a31 a32 a33 a30 a29 a25 p5 r2 a26 a22 a23) 0 #[.val (.ref a27), .val (.ref a22), .val (.int p2), .val r1] []
  refine go_aloadN 1 rfl d12_0 rfl rfl ?_
  refine go_get 0 0 4 rfl d12_1 rfl rfl rfl (wd hw 48 rfl) ?_
  refine go_aloadN 5 rfl d12_4 rfl rfl ?_
  refine go_get 0 5 8 rfl d12_5 rfl rfl rfl (wd hw 84 rfl) ?_
  refine go_aloadN 9 rfl d12_8 rfl rfl ?_
  refine go_aastore 1 10 rfl d12_9 rfl rfl rfl (by decide) (Nat.le_of_ble_eq_true rfl) (Mo.sto (i := 1) rfl (fun h M => Ins.self (Mo.exa (i := 5) rfl h M))) ?_
  show Go B12_20 Z a0 h0 _ 0 0 (mem31 a27 a31 a32 a33 a30 a29 a25 a22 p5 r2 a26 a23) 10 #[.val (.ref a27), .val (.ref a22), .val (.int p2), .val r1] []
  refine go_aloadN 11 rfl d12_10 rfl rfl ?_
  refine go_get 0 1 14 rfl d12_11 rfl rfl rfl (wd hw 51 rfl) ?_
  refine go_aloadN 15 rfl d12_14 rfl rfl ?_
  refine go_get 0 5 18 rfl d12_15 rfl rfl rfl (wd hw 84 rfl) ?_
  refine go_iloadN 19 rfl d12_18 rfl ?_
  refine go_iastore 2 20 rfl d12_19 rfl rfl (by decide) (Nat.le_of_ble_eq_true rfl) ?_
  show Go B12_20 Z a0 h0 _ 0 0 (mem32 a27 a31 a32 a33 a30 a29 a25 a22 p5 p2 r2 a26 a23) 20 #[.val (.ref a27), .val (.ref a22), .val (.int p2), .val r1] []
  refine go_aloadN 21 rfl d12_20 rfl rfl ?_
  refine go_get 0 2 24 rfl d12_21 rfl rfl rfl (wd hw 55 rfl) ?_
  refine go_aloadN 25 rfl d12_24 rfl rfl ?_
  refine go_get 0 5 28 rfl d12_25 rfl rfl rfl (wd hw 84 rfl) ?_
  refine go_aloadN 29 rfl d12_28 rfl hr1.isR ?_
  refine go_aastore 3 30 rfl d12_29 rfl rfl rfl (by decide) (Nat.le_of_ble_eq_true rfl) (hr1.sto (i := 3) rfl) ?_
  show Go B12_20 Z a0 h0 _ 0 0 (mem33 a27 a31 a32 a33 a30 a29 a25 a22 p5 p2 r2 r1 a26 a23) 30 #[.val (.ref a27), .val (.ref a22), .val (.int p2), .val r1] []
  refine go_aloadN 31 rfl d12_30 rfl rfl ?_
  refine go_dup 32 rfl d12_31 rfl rfl ?_
  refine go_get 0 5 35 rfl d12_32 rfl rfl rfl (wd hw 84 rfl) ?_
  refine go_iconst (1 : Int32) 36 rfl d12_35 rfl ?_
  refine go_iadd 37 rfl d12_36 rfl ?_
  show Go B12_20 Z a0 h0 _ 0 0 (mem33 a27 a31 a32 a33 a30 a29 a25 a22 p5 p2 r2 r1 a26 a23) 37 #[.val (.ref a27), .val (.ref a22), .val (.int p2), .val r1] [(.int (2 : Int32)), (.ref a27)]
  refine go_put 0 5 40 rfl d12_37 rfl rfl rfl (wd hw 84 rfl) (Or.inl (wd hw 85 rfl)) (wd hw 40 rfl) (ty := .int) (by decide) rfl rfl ?_
  show Go B12_20 Z a0 h0 _ 0 0 (mem34 a27 a31 a32 a33 a30 a29 a25 a22 p5 p2 r2 r1 a26 a23) 40 #[.val (.ref a27), .val (.ref a22), .val (.int p2), .val r1] []
  exact go_return d12_40 rfl rfl (by decide) (by decide) ⟨rfl, rfl⟩
def B13_21 : Bdy := (⟨"com/example/layered_locks/layeredlocks/AloneLocks", "size", "()I"⟩, prog_1_method_2_code, 1, (some .int), ({ frames := 0, cells := 0, slots := 0, locals := 0 } : Room))
set_option maxRecDepth 65536 in
set_option maxHeartbeats 4000000 in
theorem mt21 (Z : State) (a0 : Array Value) (hw : ∀ d ∈ tables_1, d.before a0 Z = true) (h0 : Heap) (r1 : Value) (hr1 : Rm Z h0 r1) (r2 : Value) (hr2 : Rm Z h0 r2) (a27 : Addr) (a31 : Addr) (a32 : Addr) (a33 : Addr) (a30 : Addr) (a29 : Addr) (a25 : Addr) (a22 : Addr) (p5 : Int32) (p2 : Int32) (a26 : Addr) (a23 : Addr) :
    Met B13_21 Z a0 h0 #[(.ref a27)] (mem34 a27 a31 a32 a33 a30 a29 a25 a22 p5 p2 r2 r1 a26 a23) (Ret (some (.int (2 : Int32))) (mem34 a27 a31 a32 a33 a30 a29 a25 a22 p5 p2 r2 r1 a26 a23)) := by
  refine Met.of pn13 (ls := #[.val (.ref a27)]) (fun m => by first | (simp [entryFrame, mkF, argsToLocals, Value.category, B13_21]; done) | rfl) ?_
  show Go B13_21 Z a0 h0 _ 0 0 (mem34 a27 a31 a32 a33 a30 a29 a25 a22 p5 p2 r2 r1 a26 a23) 0 #[.val (.ref a27)] []
  refine go_aloadN 1 rfl d13_0 rfl rfl ?_
  refine go_get 0 5 4 rfl d13_1 rfl rfl rfl (wd hw 84 rfl) ?_
  exact go_ireturn d13_4 rfl (Or.inl rfl) rfl rfl (by decide) (by decide) ⟨rfl, rfl⟩
def B14_22 : Bdy := (⟨"com/example/layered_locks/layeredlocks/AloneLocks", "path", "(I)Ljava/lang/String;"⟩, prog_1_method_3_code, 2, (some (.object "java/lang/String")), ({ frames := 0, cells := 0, slots := 0, locals := 0 } : Room))
set_option maxRecDepth 65536 in
set_option maxHeartbeats 4000000 in
theorem mt22 (Z : State) (a0 : Array Value) (hw : ∀ d ∈ tables_1, d.before a0 Z = true) (h0 : Heap) (r1 : Value) (hr1 : Rm Z h0 r1) (r2 : Value) (hr2 : Rm Z h0 r2) (a27 : Addr) (a31 : Addr) (a32 : Addr) (a33 : Addr) (a30 : Addr) (a29 : Addr) (a25 : Addr) (a22 : Addr) (p5 : Int32) (p2 : Int32) (a26 : Addr) (a23 : Addr) :
    Met B14_22 Z a0 h0 #[(.ref a27), (.int (1 : Int32))] (mem34 a27 a31 a32 a33 a30 a29 a25 a22 p5 p2 r2 r1 a26 a23) (Ret (some (.ref a22)) (mem34 a27 a31 a32 a33 a30 a29 a25 a22 p5 p2 r2 r1 a26 a23)) := by
  refine Met.of pn14 (ls := #[.val (.ref a27), .val (.int (1 : Int32))]) (fun m => by first | (simp [entryFrame, mkF, argsToLocals, Value.category, B14_22]; done) | rfl) ?_
  show Go B14_22 Z a0 h0 _ 0 0 (mem34 a27 a31 a32 a33 a30 a29 a25 a22 p5 p2 r2 r1 a26 a23) 0 #[.val (.ref a27), .val (.int (1 : Int32))] []
  refine go_aloadN 1 rfl d14_0 rfl rfl ?_
  refine go_get 0 0 4 rfl d14_1 rfl rfl rfl (wd hw 48 rfl) ?_
  refine go_iloadN 5 rfl d14_4 rfl ?_
  refine go_aaload 6 rfl d14_5 rfl rfl (Mo.el (i := 1) rfl (by decide) rfl) ?_
  exact go_areturn d14_6 rfl rfl rfl rfl (by decide) (by decide) ⟨rfl, rfl⟩
def B15_23 : Bdy := (⟨"com/example/layered_locks/layeredlocks/AloneLocks", "length", "(I)I"⟩, prog_1_method_4_code, 2, (some .int), ({ frames := 0, cells := 0, slots := 0, locals := 0 } : Room))
set_option maxRecDepth 65536 in
set_option maxHeartbeats 4000000 in
theorem mt23 (Z : State) (a0 : Array Value) (hw : ∀ d ∈ tables_1, d.before a0 Z = true) (h0 : Heap) (r1 : Value) (hr1 : Rm Z h0 r1) (r2 : Value) (hr2 : Rm Z h0 r2) (a27 : Addr) (a31 : Addr) (a32 : Addr) (a33 : Addr) (a30 : Addr) (a29 : Addr) (a25 : Addr) (a22 : Addr) (p5 : Int32) (p2 : Int32) (a26 : Addr) (a23 : Addr) :
    Met B15_23 Z a0 h0 #[(.ref a27), (.int (1 : Int32))] (mem34 a27 a31 a32 a33 a30 a29 a25 a22 p5 p2 r2 r1 a26 a23) (Ret (some (.int p2)) (mem34 a27 a31 a32 a33 a30 a29 a25 a22 p5 p2 r2 r1 a26 a23)) := by
  refine Met.of pn15 (ls := #[.val (.ref a27), .val (.int (1 : Int32))]) (fun m => by first | (simp [entryFrame, mkF, argsToLocals, Value.category, B15_23]; done) | rfl) ?_
  show Go B15_23 Z a0 h0 _ 0 0 (mem34 a27 a31 a32 a33 a30 a29 a25 a22 p5 p2 r2 r1 a26 a23) 0 #[.val (.ref a27), .val (.int (1 : Int32))] []
  refine go_aloadN 1 rfl d15_0 rfl rfl ?_
  refine go_get 0 1 4 rfl d15_1 rfl rfl rfl (wd hw 51 rfl) ?_
  refine go_iloadN 5 rfl d15_4 rfl ?_
  refine go_iaload 6 rfl d15_5 rfl (Mo.el (i := 2) rfl (by decide) rfl) ?_
  exact go_ireturn d15_6 rfl (Or.inl rfl) rfl rfl (by decide) (by decide) ⟨rfl, rfl⟩
def B16_24 : Bdy := (⟨"com/example/layered_locks/layeredlocks/AloneLocks", "mode", "(I)Lcom/example/layered_locks/layeredlocks/LockMode;"⟩, prog_1_method_5_code, 2, (some (.object "com/example/layered_locks/layeredlocks/LockMode")), ({ frames := 0, cells := 0, slots := 0, locals := 0 } : Room))
set_option maxRecDepth 65536 in
set_option maxHeartbeats 4000000 in
theorem mt24 (Z : State) (a0 : Array Value) (hw : ∀ d ∈ tables_1, d.before a0 Z = true) (h0 : Heap) (r1 : Value) (hr1 : Rm Z h0 r1) (r2 : Value) (hr2 : Rm Z h0 r2) (a27 : Addr) (a31 : Addr) (a32 : Addr) (a33 : Addr) (a30 : Addr) (a29 : Addr) (a25 : Addr) (a22 : Addr) (p5 : Int32) (p2 : Int32) (a26 : Addr) (a23 : Addr) :
    Met B16_24 Z a0 h0 #[(.ref a27), (.int (1 : Int32))] (mem34 a27 a31 a32 a33 a30 a29 a25 a22 p5 p2 r2 r1 a26 a23) (Ret (some r1) (mem34 a27 a31 a32 a33 a30 a29 a25 a22 p5 p2 r2 r1 a26 a23)) := by
  refine Met.of pn16 (ls := #[.val (.ref a27), .val (.int (1 : Int32))]) (fun m => by first | (simp [entryFrame, mkF, argsToLocals, Value.category, B16_24]; done) | rfl) ?_
  show Go B16_24 Z a0 h0 _ 0 0 (mem34 a27 a31 a32 a33 a30 a29 a25 a22 p5 p2 r2 r1 a26 a23) 0 #[.val (.ref a27), .val (.int (1 : Int32))] []
  refine go_aloadN 1 rfl d16_0 rfl rfl ?_
  refine go_get 0 2 4 rfl d16_1 rfl rfl rfl (wd hw 55 rfl) ?_
  refine go_iloadN 5 rfl d16_4 rfl ?_
  refine go_aaload 6 rfl d16_5 rfl rfl (Mo.el (i := 3) rfl (by decide) rfl) ?_
  exact go_areturn d16_6 rfl rfl hr1.isR rfl (by decide) (by decide) ⟨rfl, rfl⟩
def B14_25 : Bdy := (⟨"com/example/layered_locks/layeredlocks/AloneLocks", "path", "(I)Ljava/lang/String;"⟩, prog_1_method_3_code, 2, (some (.object "java/lang/String")), ({ frames := 0, cells := 0, slots := 0, locals := 0 } : Room))
set_option maxRecDepth 65536 in
set_option maxHeartbeats 4000000 in
theorem mt25 (Z : State) (a0 : Array Value) (hw : ∀ d ∈ tables_1, d.before a0 Z = true) (h0 : Heap) (r1 : Value) (hr1 : Rm Z h0 r1) (r2 : Value) (hr2 : Rm Z h0 r2) (a27 : Addr) (a31 : Addr) (a32 : Addr) (a33 : Addr) (a30 : Addr) (a29 : Addr) (a25 : Addr) (a22 : Addr) (p5 : Int32) (p2 : Int32) (a26 : Addr) (a23 : Addr) :
    Met B14_25 Z a0 h0 #[(.ref a27), (.int (2 : Int32))] (mem34 a27 a31 a32 a33 a30 a29 a25 a22 p5 p2 r2 r1 a26 a23) (Ret (some .null) (mem34 a27 a31 a32 a33 a30 a29 a25 a22 p5 p2 r2 r1 a26 a23)) := by
  refine Met.of pn14 (ls := #[.val (.ref a27), .val (.int (2 : Int32))]) (fun m => by first | (simp [entryFrame, mkF, argsToLocals, Value.category, B14_25]; done) | rfl) ?_
  show Go B14_25 Z a0 h0 _ 0 0 (mem34 a27 a31 a32 a33 a30 a29 a25 a22 p5 p2 r2 r1 a26 a23) 0 #[.val (.ref a27), .val (.int (2 : Int32))] []
  refine go_aloadN 1 rfl d14_0 rfl rfl ?_
  refine go_get 0 0 4 rfl d14_1 rfl rfl rfl (wd hw 48 rfl) ?_
  refine go_iloadN 5 rfl d14_4 rfl ?_
  refine go_aaload 6 rfl d14_5 rfl rfl (Mo.el (i := 1) rfl (by decide) rfl) ?_
  exact go_areturn d14_6 rfl rfl rfl rfl (by decide) (by decide) ⟨rfl, rfl⟩
def B14_26 : Bdy := (⟨"com/example/layered_locks/layeredlocks/AloneLocks", "path", "(I)Ljava/lang/String;"⟩, prog_1_method_3_code, 2, (some (.object "java/lang/String")), ({ frames := 0, cells := 0, slots := 0, locals := 0 } : Room))
set_option maxRecDepth 65536 in
set_option maxHeartbeats 4000000 in
theorem mt26 (Z : State) (a0 : Array Value) (hw : ∀ d ∈ tables_1, d.before a0 Z = true) (h0 : Heap) (r1 : Value) (hr1 : Rm Z h0 r1) (r2 : Value) (hr2 : Rm Z h0 r2) (a27 : Addr) (a31 : Addr) (a32 : Addr) (a33 : Addr) (a30 : Addr) (a29 : Addr) (a25 : Addr) (a22 : Addr) (p5 : Int32) (p2 : Int32) (a26 : Addr) (a23 : Addr) :
    Met B14_26 Z a0 h0 #[(.ref a27), (.int (0 : Int32))] (mem34 a27 a31 a32 a33 a30 a29 a25 a22 p5 p2 r2 r1 a26 a23) (Ret (some (.ref a25)) (mem34 a27 a31 a32 a33 a30 a29 a25 a22 p5 p2 r2 r1 a26 a23)) := by
  refine Met.of pn14 (ls := #[.val (.ref a27), .val (.int (0 : Int32))]) (fun m => by first | (simp [entryFrame, mkF, argsToLocals, Value.category, B14_26]; done) | rfl) ?_
  show Go B14_26 Z a0 h0 _ 0 0 (mem34 a27 a31 a32 a33 a30 a29 a25 a22 p5 p2 r2 r1 a26 a23) 0 #[.val (.ref a27), .val (.int (0 : Int32))] []
  refine go_aloadN 1 rfl d14_0 rfl rfl ?_
  refine go_get 0 0 4 rfl d14_1 rfl rfl rfl (wd hw 48 rfl) ?_
  refine go_iloadN 5 rfl d14_4 rfl ?_
  refine go_aaload 6 rfl d14_5 rfl rfl (Mo.el (i := 1) rfl (by decide) rfl) ?_
  exact go_areturn d14_6 rfl rfl rfl rfl (by decide) (by decide) ⟨rfl, rfl⟩
def B15_27 : Bdy := (⟨"com/example/layered_locks/layeredlocks/AloneLocks", "length", "(I)I"⟩, prog_1_method_4_code, 2, (some .int), ({ frames := 0, cells := 0, slots := 0, locals := 0 } : Room))
set_option maxRecDepth 65536 in
set_option maxHeartbeats 4000000 in
theorem mt27 (Z : State) (a0 : Array Value) (hw : ∀ d ∈ tables_1, d.before a0 Z = true) (h0 : Heap) (r1 : Value) (hr1 : Rm Z h0 r1) (r2 : Value) (hr2 : Rm Z h0 r2) (a27 : Addr) (a31 : Addr) (a32 : Addr) (a33 : Addr) (a30 : Addr) (a29 : Addr) (a25 : Addr) (a22 : Addr) (p5 : Int32) (p2 : Int32) (a26 : Addr) (a23 : Addr) :
    Met B15_27 Z a0 h0 #[(.ref a27), (.int (0 : Int32))] (mem34 a27 a31 a32 a33 a30 a29 a25 a22 p5 p2 r2 r1 a26 a23) (Ret (some (.int p5)) (mem34 a27 a31 a32 a33 a30 a29 a25 a22 p5 p2 r2 r1 a26 a23)) := by
  refine Met.of pn15 (ls := #[.val (.ref a27), .val (.int (0 : Int32))]) (fun m => by first | (simp [entryFrame, mkF, argsToLocals, Value.category, B15_27]; done) | rfl) ?_
  show Go B15_27 Z a0 h0 _ 0 0 (mem34 a27 a31 a32 a33 a30 a29 a25 a22 p5 p2 r2 r1 a26 a23) 0 #[.val (.ref a27), .val (.int (0 : Int32))] []
  refine go_aloadN 1 rfl d15_0 rfl rfl ?_
  refine go_get 0 1 4 rfl d15_1 rfl rfl rfl (wd hw 51 rfl) ?_
  refine go_iloadN 5 rfl d15_4 rfl ?_
  refine go_iaload 6 rfl d15_5 rfl (Mo.el (i := 2) rfl (by decide) rfl) ?_
  exact go_ireturn d15_6 rfl (Or.inl rfl) rfl rfl (by decide) (by decide) ⟨rfl, rfl⟩
def B16_28 : Bdy := (⟨"com/example/layered_locks/layeredlocks/AloneLocks", "mode", "(I)Lcom/example/layered_locks/layeredlocks/LockMode;"⟩, prog_1_method_5_code, 2, (some (.object "com/example/layered_locks/layeredlocks/LockMode")), ({ frames := 0, cells := 0, slots := 0, locals := 0 } : Room))
set_option maxRecDepth 65536 in
set_option maxHeartbeats 4000000 in
theorem mt28 (Z : State) (a0 : Array Value) (hw : ∀ d ∈ tables_1, d.before a0 Z = true) (h0 : Heap) (r1 : Value) (hr1 : Rm Z h0 r1) (r2 : Value) (hr2 : Rm Z h0 r2) (a27 : Addr) (a31 : Addr) (a32 : Addr) (a33 : Addr) (a30 : Addr) (a29 : Addr) (a25 : Addr) (a22 : Addr) (p5 : Int32) (p2 : Int32) (a26 : Addr) (a23 : Addr) :
    Met B16_28 Z a0 h0 #[(.ref a27), (.int (0 : Int32))] (mem34 a27 a31 a32 a33 a30 a29 a25 a22 p5 p2 r2 r1 a26 a23) (Ret (some r2) (mem34 a27 a31 a32 a33 a30 a29 a25 a22 p5 p2 r2 r1 a26 a23)) := by
  refine Met.of pn16 (ls := #[.val (.ref a27), .val (.int (0 : Int32))]) (fun m => by first | (simp [entryFrame, mkF, argsToLocals, Value.category, B16_28]; done) | rfl) ?_
  show Go B16_28 Z a0 h0 _ 0 0 (mem34 a27 a31 a32 a33 a30 a29 a25 a22 p5 p2 r2 r1 a26 a23) 0 #[.val (.ref a27), .val (.int (0 : Int32))] []
  refine go_aloadN 1 rfl d16_0 rfl rfl ?_
  refine go_get 0 2 4 rfl d16_1 rfl rfl rfl (wd hw 55 rfl) ?_
  refine go_iloadN 5 rfl d16_4 rfl ?_
  refine go_aaload 6 rfl d16_5 rfl rfl (Mo.el (i := 3) rfl (by decide) rfl) ?_
  exact go_areturn d16_6 rfl rfl hr2.isR rfl (by decide) (by decide) ⟨rfl, rfl⟩
def B12_29 : Bdy := (⟨"com/example/layered_locks/layeredlocks/AloneLocks", "add", "(Ljava/lang/String;ILcom/example/layered_locks/layeredlocks/LockMode;)V"⟩, prog_1_method_7_code, 4, none, ({ frames := 0, cells := 0, slots := 0, locals := 0 } : Room))
set_option maxRecDepth 65536 in
set_option maxHeartbeats 4000000 in
theorem mt29 (Z : State) (a0 : Array Value) (hw : ∀ d ∈ tables_1, d.before a0 Z = true) (h0 : Heap) (r1 : Value) (hr1 : Rm Z h0 r1) (r2 : Value) (hr2 : Rm Z h0 r2) (a34 : Addr) (a38 : Addr) (a39 : Addr) (a40 : Addr) (a37 : Addr) (a36 : Addr) (a25 : Addr) (a26 : Addr) (p2 : Int32) :
    Met B12_29 Z a0 h0 #[(.ref a34), (.ref a25), (.int (p2 ^^^ (1 : Int32))), r2] (mem25 a34 a38 a39 a40 a37 a36 a25 a26) (Ret none (mem37 a34 a38 a39 a40 a37 a36 a25 p2 r2 a26)) := by
  refine Met.of pn12 (ls := #[.val (.ref a34), .val (.ref a25), .val (.int (p2 ^^^ (1 : Int32))), .val r2]) (fun m => by rcases ref_cases hr2.isR with rfl | ⟨_, rfl⟩ <;> first | (simp [entryFrame, mkF, argsToLocals, Value.category, B12_29]; done) | rfl) ?_
  show Go B12_29 Z a0 h0 _ 0 0 (mem25 a34 a38 a39 a40 a37 a36 a25 a26) 0 #[.val (.ref a34), .val (.ref a25), .val (.int (p2 ^^^ (1 : Int32))), .val r2] []
  refine go_aloadN 1 rfl d12_0 rfl rfl ?_
  refine go_get 0 0 4 rfl d12_1 rfl rfl rfl (wd hw 48 rfl) ?_
  refine go_aloadN 5 rfl d12_4 rfl rfl ?_
  refine go_get 0 5 8 rfl d12_5 rfl rfl rfl (wd hw 84 rfl) ?_
  refine go_aloadN 9 rfl d12_8 rfl rfl ?_
  refine go_aastore 1 10 rfl d12_9 rfl rfl rfl (by decide) (Nat.le_of_ble_eq_true rfl) (Mo.sto (i := 1) rfl (fun h M => Ins.self (Mo.exa (i := 4) rfl h M))) ?_
  show Go B12_29 Z a0 h0 _ 0 0 (mem26 a34 a38 a39 a40 a37 a36 a25 a26) 10 #[.val (.ref a34), .val (.ref a25), .val (.int (p2 ^^^ (1 : Int32))), .val r2] []
  refine go_aloadN 11 rfl d12_10 rfl rfl ?_
  refine go_get 0 1 14 rfl d12_11 rfl rfl rfl (wd hw 51 rfl) ?_
  refine go_aloadN 15 rfl d12_14 rfl rfl ?_
  refine go_get 0 5 18 rfl d12_15 rfl rfl rfl (wd hw 84 rfl) ?_
  refine go_iloadN 19 rfl d12_18 rfl ?_
  refine go_iastore 2 20 rfl d12_19 rfl rfl (by decide) (Nat.le_of_ble_eq_true rfl) ?_
  show Go B12_29 Z a0 h0 _ 0 0 (mem35 a34 a38 a39 a40 a37 a36 a25 p2 a26) 20 #[.val (.ref a34), .val (.ref a25), .val (.int (p2 ^^^ (1 : Int32))), .val r2] []
  refine go_aloadN 21 rfl d12_20 rfl rfl ?_
  refine go_get 0 2 24 rfl d12_21 rfl rfl rfl (wd hw 55 rfl) ?_
  refine go_aloadN 25 rfl d12_24 rfl rfl ?_
  refine go_get 0 5 28 rfl d12_25 rfl rfl rfl (wd hw 84 rfl) ?_
  refine go_aloadN 29 rfl d12_28 rfl hr2.isR ?_
  refine go_aastore 3 30 rfl d12_29 rfl rfl rfl (by decide) (Nat.le_of_ble_eq_true rfl) (hr2.sto (i := 3) rfl) ?_
  show Go B12_29 Z a0 h0 _ 0 0 (mem36 a34 a38 a39 a40 a37 a36 a25 p2 r2 a26) 30 #[.val (.ref a34), .val (.ref a25), .val (.int (p2 ^^^ (1 : Int32))), .val r2] []
  refine go_aloadN 31 rfl d12_30 rfl rfl ?_
  refine go_dup 32 rfl d12_31 rfl rfl ?_
  refine go_get 0 5 35 rfl d12_32 rfl rfl rfl (wd hw 84 rfl) ?_
  refine go_iconst (1 : Int32) 36 rfl d12_35 rfl ?_
  refine go_iadd 37 rfl d12_36 rfl ?_
  show Go B12_29 Z a0 h0 _ 0 0 (mem36 a34 a38 a39 a40 a37 a36 a25 p2 r2 a26) 37 #[.val (.ref a34), .val (.ref a25), .val (.int (p2 ^^^ (1 : Int32))), .val r2] [(.int (1 : Int32)), (.ref a34)]
  refine go_put 0 5 40 rfl d12_37 rfl rfl rfl (wd hw 84 rfl) (Or.inl (wd hw 85 rfl)) (wd hw 40 rfl) (ty := .int) (by decide) rfl rfl ?_
  show Go B12_29 Z a0 h0 _ 0 0 (mem37 a34 a38 a39 a40 a37 a36 a25 p2 r2 a26) 40 #[.val (.ref a34), .val (.ref a25), .val (.int (p2 ^^^ (1 : Int32))), .val r2] []
  exact go_return d12_40 rfl rfl (by decide) (by decide) ⟨rfl, rfl⟩
def B12_30 : Bdy := (⟨"com/example/layered_locks/layeredlocks/AloneLocks", "add", "(Ljava/lang/String;ILcom/example/layered_locks/layeredlocks/LockMode;)V"⟩, prog_1_method_7_code, 4, none, ({ frames := 0, cells := 0, slots := 0, locals := 0 } : Room))
set_option maxRecDepth 65536 in
set_option maxHeartbeats 4000000 in
theorem mt30 (Z : State) (a0 : Array Value) (hw : ∀ d ∈ tables_1, d.before a0 Z = true) (h0 : Heap) (r1 : Value) (hr1 : Rm Z h0 r1) (r2 : Value) (hr2 : Rm Z h0 r2) (a34 : Addr) (a38 : Addr) (a39 : Addr) (a40 : Addr) (a37 : Addr) (a36 : Addr) (a25 : Addr) (p2 : Int32) (a26 : Addr) (a22 : Addr) (a23 : Addr) :
    Met B12_30 Z a0 h0 #[(.ref a34), (.ref a22), (.int p2), r1] (mem38 a34 a38 a39 a40 a37 a36 a25 p2 r2 a26 a22 a23) (Ret none (mem42 a34 a38 a39 a40 a37 a36 a25 a22 p2 r2 r1 a26 a23)) := by
  refine Met.of pn12 (ls := #[.val (.ref a34), .val (.ref a22), .val (.int p2), .val r1]) (fun m => by rcases ref_cases hr1.isR with rfl | ⟨_, rfl⟩ <;> first | (simp [entryFrame, mkF, argsToLocals, Value.category, B12_30]; done) | rfl) ?_
  show Go B12_30 Z a0 h0 _ 0 0 (mem38 a34 a38 a39 a40 a37 a36 a25 p2 r2 a26 a22 a23) 0 #[.val (.ref a34), .val (.ref a22), .val (.int p2), .val r1] []
  refine go_aloadN 1 rfl d12_0 rfl rfl ?_
  refine go_get 0 0 4 rfl d12_1 rfl rfl rfl (wd hw 48 rfl) ?_
  refine go_aloadN 5 rfl d12_4 rfl rfl ?_
  refine go_get 0 5 8 rfl d12_5 rfl rfl rfl (wd hw 84 rfl) ?_
  refine go_aloadN 9 rfl d12_8 rfl rfl ?_
  refine go_aastore 1 10 rfl d12_9 rfl rfl rfl (by decide) (Nat.le_of_ble_eq_true rfl) (Mo.sto (i := 1) rfl (fun h M => Ins.self (Mo.exa (i := 5) rfl h M))) ?_
  show Go B12_30 Z a0 h0 _ 0 0 (mem39 a34 a38 a39 a40 a37 a36 a25 a22 p2 r2 a26 a23) 10 #[.val (.ref a34), .val (.ref a22), .val (.int p2), .val r1] []
  refine go_aloadN 11 rfl d12_10 rfl rfl ?_
  refine go_get 0 1 14 rfl d12_11 rfl rfl rfl (wd hw 51 rfl) ?_
  refine go_aloadN 15 rfl d12_14 rfl rfl ?_
  refine go_get 0 5 18 rfl d12_15 rfl rfl rfl (wd hw 84 rfl) ?_
  refine go_iloadN 19 rfl d12_18 rfl ?_
  refine go_iastore 2 20 rfl d12_19 rfl rfl (by decide) (Nat.le_of_ble_eq_true rfl) ?_
  show Go B12_30 Z a0 h0 _ 0 0 (mem40 a34 a38 a39 a40 a37 a36 a25 a22 p2 r2 a26 a23) 20 #[.val (.ref a34), .val (.ref a22), .val (.int p2), .val r1] []
  refine go_aloadN 21 rfl d12_20 rfl rfl ?_
  refine go_get 0 2 24 rfl d12_21 rfl rfl rfl (wd hw 55 rfl) ?_
  refine go_aloadN 25 rfl d12_24 rfl rfl ?_
  refine go_get 0 5 28 rfl d12_25 rfl rfl rfl (wd hw 84 rfl) ?_
  refine go_aloadN 29 rfl d12_28 rfl hr1.isR ?_
  refine go_aastore 3 30 rfl d12_29 rfl rfl rfl (by decide) (Nat.le_of_ble_eq_true rfl) (hr1.sto (i := 3) rfl) ?_
  show Go B12_30 Z a0 h0 _ 0 0 (mem41 a34 a38 a39 a40 a37 a36 a25 a22 p2 r2 r1 a26 a23) 30 #[.val (.ref a34), .val (.ref a22), .val (.int p2), .val r1] []
  refine go_aloadN 31 rfl d12_30 rfl rfl ?_
  refine go_dup 32 rfl d12_31 rfl rfl ?_
  refine go_get 0 5 35 rfl d12_32 rfl rfl rfl (wd hw 84 rfl) ?_
  refine go_iconst (1 : Int32) 36 rfl d12_35 rfl ?_
  refine go_iadd 37 rfl d12_36 rfl ?_
  show Go B12_30 Z a0 h0 _ 0 0 (mem41 a34 a38 a39 a40 a37 a36 a25 a22 p2 r2 r1 a26 a23) 37 #[.val (.ref a34), .val (.ref a22), .val (.int p2), .val r1] [(.int (2 : Int32)), (.ref a34)]
  refine go_put 0 5 40 rfl d12_37 rfl rfl rfl (wd hw 84 rfl) (Or.inl (wd hw 85 rfl)) (wd hw 40 rfl) (ty := .int) (by decide) rfl rfl ?_
  show Go B12_30 Z a0 h0 _ 0 0 (mem42 a34 a38 a39 a40 a37 a36 a25 a22 p2 r2 r1 a26 a23) 40 #[.val (.ref a34), .val (.ref a22), .val (.int p2), .val r1] []
  exact go_return d12_40 rfl rfl (by decide) (by decide) ⟨rfl, rfl⟩
def B13_31 : Bdy := (⟨"com/example/layered_locks/layeredlocks/AloneLocks", "size", "()I"⟩, prog_1_method_2_code, 1, (some .int), ({ frames := 0, cells := 0, slots := 0, locals := 0 } : Room))
set_option maxRecDepth 65536 in
set_option maxHeartbeats 4000000 in
theorem mt31 (Z : State) (a0 : Array Value) (hw : ∀ d ∈ tables_1, d.before a0 Z = true) (h0 : Heap) (r1 : Value) (hr1 : Rm Z h0 r1) (r2 : Value) (hr2 : Rm Z h0 r2) (a34 : Addr) (a38 : Addr) (a39 : Addr) (a40 : Addr) (a37 : Addr) (a36 : Addr) (a25 : Addr) (a22 : Addr) (p2 : Int32) (a26 : Addr) (a23 : Addr) :
    Met B13_31 Z a0 h0 #[(.ref a34)] (mem42 a34 a38 a39 a40 a37 a36 a25 a22 p2 r2 r1 a26 a23) (Ret (some (.int (2 : Int32))) (mem42 a34 a38 a39 a40 a37 a36 a25 a22 p2 r2 r1 a26 a23)) := by
  refine Met.of pn13 (ls := #[.val (.ref a34)]) (fun m => by first | (simp [entryFrame, mkF, argsToLocals, Value.category, B13_31]; done) | rfl) ?_
  show Go B13_31 Z a0 h0 _ 0 0 (mem42 a34 a38 a39 a40 a37 a36 a25 a22 p2 r2 r1 a26 a23) 0 #[.val (.ref a34)] []
  refine go_aloadN 1 rfl d13_0 rfl rfl ?_
  refine go_get 0 5 4 rfl d13_1 rfl rfl rfl (wd hw 84 rfl) ?_
  exact go_ireturn d13_4 rfl (Or.inl rfl) rfl rfl (by decide) (by decide) ⟨rfl, rfl⟩
def B14_32 : Bdy := (⟨"com/example/layered_locks/layeredlocks/AloneLocks", "path", "(I)Ljava/lang/String;"⟩, prog_1_method_3_code, 2, (some (.object "java/lang/String")), ({ frames := 0, cells := 0, slots := 0, locals := 0 } : Room))
set_option maxRecDepth 65536 in
set_option maxHeartbeats 4000000 in
theorem mt32 (Z : State) (a0 : Array Value) (hw : ∀ d ∈ tables_1, d.before a0 Z = true) (h0 : Heap) (r1 : Value) (hr1 : Rm Z h0 r1) (r2 : Value) (hr2 : Rm Z h0 r2) (a34 : Addr) (a38 : Addr) (a39 : Addr) (a40 : Addr) (a37 : Addr) (a36 : Addr) (a25 : Addr) (a22 : Addr) (p2 : Int32) (a26 : Addr) (a23 : Addr) :
    Met B14_32 Z a0 h0 #[(.ref a34), (.int (1 : Int32))] (mem42 a34 a38 a39 a40 a37 a36 a25 a22 p2 r2 r1 a26 a23) (Ret (some (.ref a22)) (mem42 a34 a38 a39 a40 a37 a36 a25 a22 p2 r2 r1 a26 a23)) := by
  refine Met.of pn14 (ls := #[.val (.ref a34), .val (.int (1 : Int32))]) (fun m => by first | (simp [entryFrame, mkF, argsToLocals, Value.category, B14_32]; done) | rfl) ?_
  show Go B14_32 Z a0 h0 _ 0 0 (mem42 a34 a38 a39 a40 a37 a36 a25 a22 p2 r2 r1 a26 a23) 0 #[.val (.ref a34), .val (.int (1 : Int32))] []
  refine go_aloadN 1 rfl d14_0 rfl rfl ?_
  refine go_get 0 0 4 rfl d14_1 rfl rfl rfl (wd hw 48 rfl) ?_
  refine go_iloadN 5 rfl d14_4 rfl ?_
  refine go_aaload 6 rfl d14_5 rfl rfl (Mo.el (i := 1) rfl (by decide) rfl) ?_
  exact go_areturn d14_6 rfl rfl rfl rfl (by decide) (by decide) ⟨rfl, rfl⟩
def B15_33 : Bdy := (⟨"com/example/layered_locks/layeredlocks/AloneLocks", "length", "(I)I"⟩, prog_1_method_4_code, 2, (some .int), ({ frames := 0, cells := 0, slots := 0, locals := 0 } : Room))
set_option maxRecDepth 65536 in
set_option maxHeartbeats 4000000 in
theorem mt33 (Z : State) (a0 : Array Value) (hw : ∀ d ∈ tables_1, d.before a0 Z = true) (h0 : Heap) (r1 : Value) (hr1 : Rm Z h0 r1) (r2 : Value) (hr2 : Rm Z h0 r2) (a34 : Addr) (a38 : Addr) (a39 : Addr) (a40 : Addr) (a37 : Addr) (a36 : Addr) (a25 : Addr) (a22 : Addr) (p2 : Int32) (a26 : Addr) (a23 : Addr) :
    Met B15_33 Z a0 h0 #[(.ref a34), (.int (1 : Int32))] (mem42 a34 a38 a39 a40 a37 a36 a25 a22 p2 r2 r1 a26 a23) (Ret (some (.int p2)) (mem42 a34 a38 a39 a40 a37 a36 a25 a22 p2 r2 r1 a26 a23)) := by
  refine Met.of pn15 (ls := #[.val (.ref a34), .val (.int (1 : Int32))]) (fun m => by first | (simp [entryFrame, mkF, argsToLocals, Value.category, B15_33]; done) | rfl) ?_
  show Go B15_33 Z a0 h0 _ 0 0 (mem42 a34 a38 a39 a40 a37 a36 a25 a22 p2 r2 r1 a26 a23) 0 #[.val (.ref a34), .val (.int (1 : Int32))] []
  refine go_aloadN 1 rfl d15_0 rfl rfl ?_
  refine go_get 0 1 4 rfl d15_1 rfl rfl rfl (wd hw 51 rfl) ?_
  refine go_iloadN 5 rfl d15_4 rfl ?_
  refine go_iaload 6 rfl d15_5 rfl (Mo.el (i := 2) rfl (by decide) rfl) ?_
  exact go_ireturn d15_6 rfl (Or.inl rfl) rfl rfl (by decide) (by decide) ⟨rfl, rfl⟩
def B16_34 : Bdy := (⟨"com/example/layered_locks/layeredlocks/AloneLocks", "mode", "(I)Lcom/example/layered_locks/layeredlocks/LockMode;"⟩, prog_1_method_5_code, 2, (some (.object "com/example/layered_locks/layeredlocks/LockMode")), ({ frames := 0, cells := 0, slots := 0, locals := 0 } : Room))
set_option maxRecDepth 65536 in
set_option maxHeartbeats 4000000 in
theorem mt34 (Z : State) (a0 : Array Value) (hw : ∀ d ∈ tables_1, d.before a0 Z = true) (h0 : Heap) (r1 : Value) (hr1 : Rm Z h0 r1) (r2 : Value) (hr2 : Rm Z h0 r2) (a34 : Addr) (a38 : Addr) (a39 : Addr) (a40 : Addr) (a37 : Addr) (a36 : Addr) (a25 : Addr) (a22 : Addr) (p2 : Int32) (a26 : Addr) (a23 : Addr) :
    Met B16_34 Z a0 h0 #[(.ref a34), (.int (1 : Int32))] (mem42 a34 a38 a39 a40 a37 a36 a25 a22 p2 r2 r1 a26 a23) (Ret (some r1) (mem42 a34 a38 a39 a40 a37 a36 a25 a22 p2 r2 r1 a26 a23)) := by
  refine Met.of pn16 (ls := #[.val (.ref a34), .val (.int (1 : Int32))]) (fun m => by first | (simp [entryFrame, mkF, argsToLocals, Value.category, B16_34]; done) | rfl) ?_
  show Go B16_34 Z a0 h0 _ 0 0 (mem42 a34 a38 a39 a40 a37 a36 a25 a22 p2 r2 r1 a26 a23) 0 #[.val (.ref a34), .val (.int (1 : Int32))] []
  refine go_aloadN 1 rfl d16_0 rfl rfl ?_
  refine go_get 0 2 4 rfl d16_1 rfl rfl rfl (wd hw 55 rfl) ?_
  refine go_iloadN 5 rfl d16_4 rfl ?_
  refine go_aaload 6 rfl d16_5 rfl rfl (Mo.el (i := 3) rfl (by decide) rfl) ?_
  exact go_areturn d16_6 rfl rfl hr1.isR rfl (by decide) (by decide) ⟨rfl, rfl⟩
def B14_35 : Bdy := (⟨"com/example/layered_locks/layeredlocks/AloneLocks", "path", "(I)Ljava/lang/String;"⟩, prog_1_method_3_code, 2, (some (.object "java/lang/String")), ({ frames := 0, cells := 0, slots := 0, locals := 0 } : Room))
set_option maxRecDepth 65536 in
set_option maxHeartbeats 4000000 in
theorem mt35 (Z : State) (a0 : Array Value) (hw : ∀ d ∈ tables_1, d.before a0 Z = true) (h0 : Heap) (r1 : Value) (hr1 : Rm Z h0 r1) (r2 : Value) (hr2 : Rm Z h0 r2) (a34 : Addr) (a38 : Addr) (a39 : Addr) (a40 : Addr) (a37 : Addr) (a36 : Addr) (a25 : Addr) (a22 : Addr) (p2 : Int32) (a26 : Addr) (a23 : Addr) :
    Met B14_35 Z a0 h0 #[(.ref a34), (.int (2 : Int32))] (mem42 a34 a38 a39 a40 a37 a36 a25 a22 p2 r2 r1 a26 a23) (Ret (some .null) (mem42 a34 a38 a39 a40 a37 a36 a25 a22 p2 r2 r1 a26 a23)) := by
  refine Met.of pn14 (ls := #[.val (.ref a34), .val (.int (2 : Int32))]) (fun m => by first | (simp [entryFrame, mkF, argsToLocals, Value.category, B14_35]; done) | rfl) ?_
  show Go B14_35 Z a0 h0 _ 0 0 (mem42 a34 a38 a39 a40 a37 a36 a25 a22 p2 r2 r1 a26 a23) 0 #[.val (.ref a34), .val (.int (2 : Int32))] []
  refine go_aloadN 1 rfl d14_0 rfl rfl ?_
  refine go_get 0 0 4 rfl d14_1 rfl rfl rfl (wd hw 48 rfl) ?_
  refine go_iloadN 5 rfl d14_4 rfl ?_
  refine go_aaload 6 rfl d14_5 rfl rfl (Mo.el (i := 1) rfl (by decide) rfl) ?_
  exact go_areturn d14_6 rfl rfl rfl rfl (by decide) (by decide) ⟨rfl, rfl⟩
def B14_36 : Bdy := (⟨"com/example/layered_locks/layeredlocks/AloneLocks", "path", "(I)Ljava/lang/String;"⟩, prog_1_method_3_code, 2, (some (.object "java/lang/String")), ({ frames := 0, cells := 0, slots := 0, locals := 0 } : Room))
set_option maxRecDepth 65536 in
set_option maxHeartbeats 4000000 in
theorem mt36 (Z : State) (a0 : Array Value) (hw : ∀ d ∈ tables_1, d.before a0 Z = true) (h0 : Heap) (r1 : Value) (hr1 : Rm Z h0 r1) (r2 : Value) (hr2 : Rm Z h0 r2) (a34 : Addr) (a38 : Addr) (a39 : Addr) (a40 : Addr) (a37 : Addr) (a36 : Addr) (a25 : Addr) (a22 : Addr) (p2 : Int32) (a26 : Addr) (a23 : Addr) :
    Met B14_36 Z a0 h0 #[(.ref a34), (.int (0 : Int32))] (mem42 a34 a38 a39 a40 a37 a36 a25 a22 p2 r2 r1 a26 a23) (Ret (some (.ref a25)) (mem42 a34 a38 a39 a40 a37 a36 a25 a22 p2 r2 r1 a26 a23)) := by
  refine Met.of pn14 (ls := #[.val (.ref a34), .val (.int (0 : Int32))]) (fun m => by first | (simp [entryFrame, mkF, argsToLocals, Value.category, B14_36]; done) | rfl) ?_
  show Go B14_36 Z a0 h0 _ 0 0 (mem42 a34 a38 a39 a40 a37 a36 a25 a22 p2 r2 r1 a26 a23) 0 #[.val (.ref a34), .val (.int (0 : Int32))] []
  refine go_aloadN 1 rfl d14_0 rfl rfl ?_
  refine go_get 0 0 4 rfl d14_1 rfl rfl rfl (wd hw 48 rfl) ?_
  refine go_iloadN 5 rfl d14_4 rfl ?_
  refine go_aaload 6 rfl d14_5 rfl rfl (Mo.el (i := 1) rfl (by decide) rfl) ?_
  exact go_areturn d14_6 rfl rfl rfl rfl (by decide) (by decide) ⟨rfl, rfl⟩
def B15_37 : Bdy := (⟨"com/example/layered_locks/layeredlocks/AloneLocks", "length", "(I)I"⟩, prog_1_method_4_code, 2, (some .int), ({ frames := 0, cells := 0, slots := 0, locals := 0 } : Room))
set_option maxRecDepth 65536 in
set_option maxHeartbeats 4000000 in
theorem mt37 (Z : State) (a0 : Array Value) (hw : ∀ d ∈ tables_1, d.before a0 Z = true) (h0 : Heap) (r1 : Value) (hr1 : Rm Z h0 r1) (r2 : Value) (hr2 : Rm Z h0 r2) (a34 : Addr) (a38 : Addr) (a39 : Addr) (a40 : Addr) (a37 : Addr) (a36 : Addr) (a25 : Addr) (a22 : Addr) (p2 : Int32) (a26 : Addr) (a23 : Addr) :
    Met B15_37 Z a0 h0 #[(.ref a34), (.int (0 : Int32))] (mem42 a34 a38 a39 a40 a37 a36 a25 a22 p2 r2 r1 a26 a23) (Ret (some (.int (p2 ^^^ (1 : Int32)))) (mem42 a34 a38 a39 a40 a37 a36 a25 a22 p2 r2 r1 a26 a23)) := by
  refine Met.of pn15 (ls := #[.val (.ref a34), .val (.int (0 : Int32))]) (fun m => by first | (simp [entryFrame, mkF, argsToLocals, Value.category, B15_37]; done) | rfl) ?_
  show Go B15_37 Z a0 h0 _ 0 0 (mem42 a34 a38 a39 a40 a37 a36 a25 a22 p2 r2 r1 a26 a23) 0 #[.val (.ref a34), .val (.int (0 : Int32))] []
  refine go_aloadN 1 rfl d15_0 rfl rfl ?_
  refine go_get 0 1 4 rfl d15_1 rfl rfl rfl (wd hw 51 rfl) ?_
  refine go_iloadN 5 rfl d15_4 rfl ?_
  refine go_iaload 6 rfl d15_5 rfl (Mo.el (i := 2) rfl (by decide) rfl) ?_
  exact go_ireturn d15_6 rfl (Or.inl rfl) rfl rfl (by decide) (by decide) ⟨rfl, rfl⟩
def B16_38 : Bdy := (⟨"com/example/layered_locks/layeredlocks/AloneLocks", "mode", "(I)Lcom/example/layered_locks/layeredlocks/LockMode;"⟩, prog_1_method_5_code, 2, (some (.object "com/example/layered_locks/layeredlocks/LockMode")), ({ frames := 0, cells := 0, slots := 0, locals := 0 } : Room))
set_option maxRecDepth 65536 in
set_option maxHeartbeats 4000000 in
theorem mt38 (Z : State) (a0 : Array Value) (hw : ∀ d ∈ tables_1, d.before a0 Z = true) (h0 : Heap) (r1 : Value) (hr1 : Rm Z h0 r1) (r2 : Value) (hr2 : Rm Z h0 r2) (a34 : Addr) (a38 : Addr) (a39 : Addr) (a40 : Addr) (a37 : Addr) (a36 : Addr) (a25 : Addr) (a22 : Addr) (p2 : Int32) (a26 : Addr) (a23 : Addr) :
    Met B16_38 Z a0 h0 #[(.ref a34), (.int (0 : Int32))] (mem42 a34 a38 a39 a40 a37 a36 a25 a22 p2 r2 r1 a26 a23) (Ret (some r2) (mem42 a34 a38 a39 a40 a37 a36 a25 a22 p2 r2 r1 a26 a23)) := by
  refine Met.of pn16 (ls := #[.val (.ref a34), .val (.int (0 : Int32))]) (fun m => by first | (simp [entryFrame, mkF, argsToLocals, Value.category, B16_38]; done) | rfl) ?_
  show Go B16_38 Z a0 h0 _ 0 0 (mem42 a34 a38 a39 a40 a37 a36 a25 a22 p2 r2 r1 a26 a23) 0 #[.val (.ref a34), .val (.int (0 : Int32))] []
  refine go_aloadN 1 rfl d16_0 rfl rfl ?_
  refine go_get 0 2 4 rfl d16_1 rfl rfl rfl (wd hw 55 rfl) ?_
  refine go_iloadN 5 rfl d16_4 rfl ?_
  refine go_aaload 6 rfl d16_5 rfl rfl (Mo.el (i := 3) rfl (by decide) rfl) ?_
  exact go_areturn d16_6 rfl rfl hr2.isR rfl (by decide) (by decide) ⟨rfl, rfl⟩
theorem pn0 : plainFor (⟨"com/example/layered_locks/layeredlocks/AloneLocksAddPinLaw", "law", "(IIIII)Z"⟩ : MethodName) = true := by first | (apply plainFor_of_name; simp [plainName, overriddenIn]; done) | decide +kernel
def B0 : Bdy := (x, code, maxLocals, ret, room_1)
set_option maxRecDepth 65536 in
set_option maxHeartbeats 4000000 in
theorem law_met (Z : State) (a0 : Array Value) (hw : ∀ d ∈ tables_1, d.before a0 Z = true) (h0 : Heap) (p1 p2 p3 p4 p5 : Int32) (mIS : Addr) (SIS : Sta Z h0 "com/example/layered_locks/layeredlocks/LockMode" "IS" "Lcom/example/layered_locks/layeredlocks/LockMode;" (.ref mIS)) (EIS : Exa Z h0 mIS "com/example/layered_locks/layeredlocks/LockMode") (mIX : Addr) (SIX : Sta Z h0 "com/example/layered_locks/layeredlocks/LockMode" "IX" "Lcom/example/layered_locks/layeredlocks/LockMode;" (.ref mIX)) (EIX : Exa Z h0 mIX "com/example/layered_locks/layeredlocks/LockMode") (mS : Addr) (SS : Sta Z h0 "com/example/layered_locks/layeredlocks/LockMode" "S" "Lcom/example/layered_locks/layeredlocks/LockMode;" (.ref mS)) (ES : Exa Z h0 mS "com/example/layered_locks/layeredlocks/LockMode") (mSIX : Addr) (SSIX : Sta Z h0 "com/example/layered_locks/layeredlocks/LockMode" "SIX" "Lcom/example/layered_locks/layeredlocks/LockMode;" (.ref mSIX)) (ESIX : Exa Z h0 mSIX "com/example/layered_locks/layeredlocks/LockMode") (mX : Addr) (SX : Sta Z h0 "com/example/layered_locks/layeredlocks/LockMode" "X" "Lcom/example/layered_locks/layeredlocks/LockMode;" (.ref mX)) (EX : Exa Z h0 mX "com/example/layered_locks/layeredlocks/LockMode") (zc : Int32) (SC : Sta Z h0 "java/lang/String" "COMPACT_STRINGS" "Z" (.int zc)) (hzc : ¬ zc = 0) :
    Met B0 Z a0 h0 #[(.int p1), (.int p2), (.int p3), (.int p4), (.int p5)] [] (fun v _ => v = some (.int 1)) := by
  refine Met.of pn0 (ls := #[.val (.int p1), .val (.int p2), .val (.int p3), .val (.int p4), .val (.int p5), .unset, .unset, .unset, .unset, .unset, .unset, .unset, .unset, .unset, .unset, .unset]) (fun m => by first | (simp [entryFrame, mkF, argsToLocals, Value.category, B0, maxLocals]; done) | rfl) ?_
  show Go B0 Z a0 h0 _ 0 0 [] 0 #[.val (.int p1), .val (.int p2), .val (.int p3), .val (.int p4), .val (.int p5), .unset, .unset, .unset, .unset, .unset, .unset, .unset, .unset, .unset, .unset, .unset] []
  refine go_iloadN 1 rfl at_0 rfl ?_
  refine go_sipush (255 : Int32) 4 rfl at_1 rfl ?_
  refine go_iand 5 rfl at_4 rfl ?_
  refine go_bipush (6 : Int32) 7 rfl at_5 rfl ?_
  refine go_irem 8 rfl at_7 rfl (by decide) ?_
  refine go_callS 11 rfl at_8 (wd hw 0 rfl) (wd hw 1 rfl) (wd hw 2 rfl) (wd hw 3 rfl) (by decide) (m_pick Z a0 hw h0 [] ((p3 &&& (255 : Int32)) % (6 : Int32)) mIS SIS EIS mIX SIX EIX mS SS ES mSIX SSIX ESIX mX SX EX) (argsL := [(.int ((p3 &&& (255 : Int32)) % (6 : Int32)))]) (rest := []) rfl (ps := [.int]) (by decide +kernel) rfl rfl 0 rfl (by decide) (by decide) (by decide) (by decide) ?_
  rintro _ _ ⟨r1, rfl, rfl, hr1⟩
  show Go B0 Z a0 h0 _ 0 0 [] 11 #[.val (.int p1), .val (.int p2), .val (.int p3), .val (.int p4), .val (.int p5), .unset, .unset, .unset, .unset, .unset, .unset, .unset, .unset, .unset, .unset, .unset] [r1]
  refine go_astore #[.val (.int p1), .val (.int p2), .val (.int p3), .val (.int p4), .val (.int p5), .val r1, .unset, .unset, .unset, .unset, .unset, .unset, .unset, .unset, .unset, .unset] 13 rfl at_11 rfl hr1.isR (XS.store1 rfl (Or.inl rfl) (cat1 hr1.isR)) ?_
  refine go_iloadN 14 rfl at_13 rfl ?_
  refine go_bipush (8 : Int32) 16 rfl at_14 rfl ?_
  refine go_iushr 17 rfl at_16 rfl ?_
  refine go_sipush (255 : Int32) 20 rfl at_17 rfl ?_
  refine go_iand 21 rfl at_20 rfl ?_
  refine go_bipush (6 : Int32) 23 rfl at_21 rfl ?_
  refine go_irem 24 rfl at_23 rfl (by decide) ?_
  refine go_callS 27 rfl at_24 (wd hw 0 rfl) (wd hw 1 rfl) (wd hw 2 rfl) (wd hw 3 rfl) (by decide) (m_pick Z a0 hw h0 [] ((((p3.toUInt32 >>> ((8 : Int32) &&& 31).toUInt32).toInt32) &&& (255 : Int32)) % (6 : Int32)) mIS SIS EIS mIX SIX EIX mS SS ES mSIX SSIX ESIX mX SX EX) (argsL := [(.int ((((p3.toUInt32 >>> ((8 : Int32) &&& 31).toUInt32).toInt32) &&& (255 : Int32)) % (6 : Int32)))]) (rest := []) rfl (ps := [.int]) (by decide +kernel) rfl rfl 0 rfl (by decide) (by decide) (by decide) (by decide) ?_
  rintro _ _ ⟨r2, rfl, rfl, hr2⟩
  show Go B0 Z a0 h0 _ 0 0 [] 27 #[.val (.int p1), .val (.int p2), .val (.int p3), .val (.int p4), .val (.int p5), .val r1, .unset, .unset, .unset, .unset, .unset, .unset, .unset, .unset, .unset, .unset] [r2]
  refine go_astore #[.val (.int p1), .val (.int p2), .val (.int p3), .val (.int p4), .val (.int p5), .val r1, .val r2, .unset, .unset, .unset, .unset, .unset, .unset, .unset, .unset, .unset] 29 rfl at_27 rfl hr2.isR (XS.store1 rfl (Or.inl rfl) (cat1 hr2.isR)) ?_
  refine go_iloadN 30 rfl at_29 rfl ?_
  refine go_bipush (16 : Int32) 32 rfl at_30 rfl ?_
  refine go_iushr 33 rfl at_32 rfl ?_
  refine go_iconst (1 : Int32) 34 rfl at_33 rfl ?_
  refine go_iand 35 rfl at_34 rfl ?_
  refine go_if 42 38 rfl (by decide) rfl at_35 rfl (fun (hc35_5 : (((p3.toUInt32 >>> ((16 : Int32) &&& 31).toUInt32).toInt32) &&& (1 : Int32)).toInt = 0) => ?_) (fun (hc35_5 : ¬ ((((p3.toUInt32 >>> ((16 : Int32) &&& 31).toUInt32).toInt32) &&& (1 : Int32)).toInt = 0)) => ?_)
  · refine go_iconst (0 : Int32) 43 rfl at_42 rfl ?_
    refine go_istore #[.val (.int p1), .val (.int p2), .val (.int p3), .val (.int p4), .val (.int p5), .val r1, .val r2, .val (.int (0 : Int32)), .unset, .unset, .unset, .unset, .unset, .unset, .unset, .unset] 45 rfl at_43 rfl rfl ?_
    refine go_iconst (3 : Int32) 46 rfl at_45 rfl ?_
    refine go_newarr 48 rfl at_46 rfl (wd hw 9 rfl) (by decide) 3 (by decide) (by decide) (by decide) (by decide) (fun a1 => ?_)
    show Go B0 Z a0 h0 _ 1 3 [ar a1 .char [(.int (0 : Int32)), (.int (0 : Int32)), (.int (0 : Int32))]] 48 #[.val (.int p1), .val (.int p2), .val (.int p3), .val (.int p4), .val (.int p5), .val r1, .val r2, .val (.int (0 : Int32)), .unset, .unset, .unset, .unset, .unset, .unset, .unset, .unset] [(.ref a1)]
    refine go_astore #[.val (.int p1), .val (.int p2), .val (.int p3), .val (.int p4), .val (.int p5), .val r1, .val r2, .val (.int (0 : Int32)), .val (.ref a1), .unset, .unset, .unset, .unset, .unset, .unset, .unset] 50 rfl at_48 rfl rfl rfl ?_
    refine go_aload 52 rfl at_50 rfl rfl ?_
    refine go_iconst (0 : Int32) 53 rfl at_52 rfl ?_
    refine go_iloadN 54 rfl at_53 rfl ?_
    refine go_sipush (255 : Int32) 57 rfl at_54 rfl ?_
    refine go_iand 58 rfl at_57 rfl ?_
    refine go_i2c 59 rfl at_58 rfl ?_
    refine go_castore 0 60 rfl at_59 rfl rfl (by decide) (Nat.le_of_ble_eq_true rfl) ?_
    show Go B0 Z a0 h0 _ 1 3 [ar a1 .char [(.int (nar .char ((p1 &&& (255 : Int32)).toUInt32.toUInt16.toUInt32.toInt32))), (.int (0 : Int32)), (.int (0 : Int32))]] 60 #[.val (.int p1), .val (.int p2), .val (.int p3), .val (.int p4), .val (.int p5), .val r1, .val r2, .val (.int (0 : Int32)), .val (.ref a1), .unset, .unset, .unset, .unset, .unset, .unset, .unset] []
    refine go_aload 62 rfl at_60 rfl rfl ?_
    refine go_iconst (1 : Int32) 63 rfl at_62 rfl ?_
    refine go_iloadN 64 rfl at_63 rfl ?_
    refine go_bipush (8 : Int32) 66 rfl at_64 rfl ?_
    refine go_iushr 67 rfl at_66 rfl ?_
    refine go_sipush (255 : Int32) 70 rfl at_67 rfl ?_
    refine go_iand 71 rfl at_70 rfl ?_
    refine go_i2c 72 rfl at_71 rfl ?_
    refine go_castore 0 73 rfl at_72 rfl rfl (by decide) (Nat.le_of_ble_eq_true rfl) ?_
    show Go B0 Z a0 h0 _ 1 3 [ar a1 .char [(.int (nar .char ((p1 &&& (255 : Int32)).toUInt32.toUInt16.toUInt32.toInt32))), (.int (nar .char ((((p1.toUInt32 >>> ((8 : Int32) &&& 31).toUInt32).toInt32) &&& (255 : Int32)).toUInt32.toUInt16.toUInt32.toInt32))), (.int (0 : Int32))]] 73 #[.val (.int p1), .val (.int p2), .val (.int p3), .val (.int p4), .val (.int p5), .val r1, .val r2, .val (.int (0 : Int32)), .val (.ref a1), .unset, .unset, .unset, .unset, .unset, .unset, .unset] []
    refine go_aload 75 rfl at_73 rfl rfl ?_
    refine go_iconst (2 : Int32) 76 rfl at_75 rfl ?_
    refine go_iloadN 77 rfl at_76 rfl ?_
    refine go_bipush (16 : Int32) 79 rfl at_77 rfl ?_
    refine go_iushr 80 rfl at_79 rfl ?_
    refine go_sipush (255 : Int32) 83 rfl at_80 rfl ?_
    refine go_iand 84 rfl at_83 rfl ?_
    refine go_i2c 85 rfl at_84 rfl ?_
    refine go_castore 0 86 rfl at_85 rfl rfl (by decide) (Nat.le_of_ble_eq_true rfl) ?_
    show Go B0 Z a0 h0 _ 1 3 [ar a1 .char [(.int (nar .char ((p1 &&& (255 : Int32)).toUInt32.toUInt16.toUInt32.toInt32))), (.int (nar .char ((((p1.toUInt32 >>> ((8 : Int32) &&& 31).toUInt32).toInt32) &&& (255 : Int32)).toUInt32.toUInt16.toUInt32.toInt32))), (.int (nar .char ((((p1.toUInt32 >>> ((16 : Int32) &&& 31).toUInt32).toInt32) &&& (255 : Int32)).toUInt32.toUInt16.toUInt32.toInt32)))]] 86 #[.val (.int p1), .val (.int p2), .val (.int p3), .val (.int p4), .val (.int p5), .val r1, .val r2, .val (.int (0 : Int32)), .val (.ref a1), .unset, .unset, .unset, .unset, .unset, .unset, .unset] []
    have hp11 := chr_rng _ (and255 p1)
    generalize ep11 : (nar .char ((p1 &&& (255 : Int32)).toUInt32.toUInt16.toUInt32.toInt32)) = p11 at hp11 ⊢
    have hp12 := chr_rng _ (and255 ((p1.toUInt32 >>> ((8 : Int32) &&& 31).toUInt32).toInt32))
    generalize ep12 : (nar .char ((((p1.toUInt32 >>> ((8 : Int32) &&& 31).toUInt32).toInt32) &&& (255 : Int32)).toUInt32.toUInt16.toUInt32.toInt32)) = p12 at hp12 ⊢
    have hp13 := chr_rng _ (and255 ((p1.toUInt32 >>> ((16 : Int32) &&& 31).toUInt32).toInt32))
    generalize ep13 : (nar .char ((((p1.toUInt32 >>> ((16 : Int32) &&& 31).toUInt32).toInt32) &&& (255 : Int32)).toUInt32.toUInt16.toUInt32.toInt32)) = p13 at hp13 ⊢
    refine go_new 89 rfl at_86 (wd hw 10 rfl) (wd hw 11 rfl) (wd hw 12 rfl) (by decide) (by decide) [("java/lang/String", "coder", "B", (.int (0 : Int32))), ("java/lang/String", "value", "[B", .null)] ⟨⟨Or.inr (wd hw 36 rfl), _, rfl, rfl⟩, ⟨⟨Or.inr (wd hw 38 rfl), _, rfl, rfl⟩, trivial⟩⟩ (by decide) (fun a2 => ?_)
    show Go B0 Z a0 h0 _ 2 7 [ar a1 .char [(.int p11), (.int p12), (.int p13)], ob a2 "java/lang/String" [("java/lang/String", "coder", "B", (.int (0 : Int32))), ("java/lang/String", "value", "[B", .null)]] 89 #[.val (.int p1), .val (.int p2), .val (.int p3), .val (.int p4), .val (.int p5), .val r1, .val r2, .val (.int (0 : Int32)), .val (.ref a1), .unset, .unset, .unset, .unset, .unset, .unset, .unset] [(.ref a2)]
    refine go_dup 90 rfl at_89 rfl rfl ?_
    refine go_aload 92 rfl at_90 rfl rfl ?_
    refine go_newStr [p11, p12, p13] 1 0 3 95 rfl at_92 rfl rfl 1 0 rfl rfl rfl rfl (by decide) (by decide) (by
        intro c hc
        simp only [List.mem_cons, List.not_mem_nil, or_false] at hc
        rcases hc with rfl | rfl | rfl
        · exact hp11
        · exact hp12
        · exact hp13) SC hzc (fun d hd => hw d (wstr d hd)) (wd hw 11 rfl) (wd hw 13 rfl) (wd hw 14 rfl) (wd hw 15 rfl) rfl 1 rfl (by decide) (by decide) (by decide) (by decide) (fun a3 => ?_)
    show Go B0 Z a0 h0 _ 3 10 [ar a1 .char [(.int p11), (.int p12), (.int p13)], ob a2 "java/lang/String" [("java/lang/String", "value", "[B", (.ref a3)), ("java/lang/String", "coder", "B", (.int (0 : Int32)))], ar a3 .byte [(.int (p11.toInt8.toInt32)), (.int (p12.toInt8.toInt32)), (.int (p13.toInt8.toInt32))]] 95 #[.val (.int p1), .val (.int p2), .val (.int p3), .val (.int p4), .val (.int p5), .val r1, .val r2, .val (.int (0 : Int32)), .val (.ref a1), .unset, .unset, .unset, .unset, .unset, .unset, .unset] [(.ref a2)]
    refine Go.sub (ds' := [ob a2 "java/lang/String" [("java/lang/String", "value", "[B", (.ref a3)), ("java/lang/String", "coder", "B", (.int (0 : Int32)))]]) (.cons _ (.cons₂ _ (.cons _ .slnil))) ?_
    refine go_astore #[.val (.int p1), .val (.int p2), .val (.int p3), .val (.int p4), .val (.int p5), .val r1, .val r2, .val (.int (0 : Int32)), .val (.ref a1), .val (.ref a2), .unset, .unset, .unset, .unset, .unset, .unset] 97 rfl at_95 rfl rfl rfl ?_
    refine go_iconst (3 : Int32) 98 rfl at_97 rfl ?_
    refine go_newarr 100 rfl at_98 rfl (wd hw 9 rfl) (by decide) 3 (by decide) (by decide) (by decide) (by decide) (fun a4 => ?_)
    show Go B0 Z a0 h0 _ 4 13 [ob a2 "java/lang/String" [("java/lang/String", "value", "[B", (.ref a3)), ("java/lang/String", "coder", "B", (.int (0 : Int32)))], ar a4 .char [(.int (0 : Int32)), (.int (0 : Int32)), (.int (0 : Int32))]] 100 #[.val (.int p1), .val (.int p2), .val (.int p3), .val (.int p4), .val (.int p5), .val r1, .val r2, .val (.int (0 : Int32)), .val (.ref a1), .val (.ref a2), .unset, .unset, .unset, .unset, .unset, .unset] [(.ref a4)]
    refine go_astore #[.val (.int p1), .val (.int p2), .val (.int p3), .val (.int p4), .val (.int p5), .val r1, .val r2, .val (.int (0 : Int32)), .val (.ref a1), .val (.ref a2), .val (.ref a4), .unset, .unset, .unset, .unset, .unset] 102 rfl at_100 rfl rfl rfl ?_
    refine go_aload 104 rfl at_102 rfl rfl ?_
    refine go_iconst (0 : Int32) 105 rfl at_104 rfl ?_
    refine go_iloadN 106 rfl at_105 rfl ?_
    refine go_sipush (255 : Int32) 109 rfl at_106 rfl ?_
    refine go_iand 110 rfl at_109 rfl ?_
    refine go_i2c 111 rfl at_110 rfl ?_
    refine go_castore 1 112 rfl at_111 rfl rfl (by decide) (Nat.le_of_ble_eq_true rfl) ?_
    show Go B0 Z a0 h0 _ 4 13 [ob a2 "java/lang/String" [("java/lang/String", "value", "[B", (.ref a3)), ("java/lang/String", "coder", "B", (.int (0 : Int32)))], ar a4 .char [(.int (nar .char ((p4 &&& (255 : Int32)).toUInt32.toUInt16.toUInt32.toInt32))), (.int (0 : Int32)), (.int (0 : Int32))]] 112 #[.val (.int p1), .val (.int p2), .val (.int p3), .val (.int p4), .val (.int p5), .val r1, .val r2, .val (.int (0 : Int32)), .val (.ref a1), .val (.ref a2), .val (.ref a4), .unset, .unset, .unset, .unset, .unset] []
    refine go_aload 114 rfl at_112 rfl rfl ?_
    refine go_iconst (1 : Int32) 115 rfl at_114 rfl ?_
    refine go_iloadN 116 rfl at_115 rfl ?_
    refine go_bipush (8 : Int32) 118 rfl at_116 rfl ?_
    refine go_iushr 119 rfl at_118 rfl ?_
    refine go_sipush (255 : Int32) 122 rfl at_119 rfl ?_
    refine go_iand 123 rfl at_122 rfl ?_
    refine go_i2c 124 rfl at_123 rfl ?_
    refine go_castore 1 125 rfl at_124 rfl rfl (by decide) (Nat.le_of_ble_eq_true rfl) ?_
    show Go B0 Z a0 h0 _ 4 13 [ob a2 "java/lang/String" [("java/lang/String", "value", "[B", (.ref a3)), ("java/lang/String", "coder", "B", (.int (0 : Int32)))], ar a4 .char [(.int (nar .char ((p4 &&& (255 : Int32)).toUInt32.toUInt16.toUInt32.toInt32))), (.int (nar .char ((((p4.toUInt32 >>> ((8 : Int32) &&& 31).toUInt32).toInt32) &&& (255 : Int32)).toUInt32.toUInt16.toUInt32.toInt32))), (.int (0 : Int32))]] 125 #[.val (.int p1), .val (.int p2), .val (.int p3), .val (.int p4), .val (.int p5), .val r1, .val r2, .val (.int (0 : Int32)), .val (.ref a1), .val (.ref a2), .val (.ref a4), .unset, .unset, .unset, .unset, .unset] []
    refine go_aload 127 rfl at_125 rfl rfl ?_
    refine go_iconst (2 : Int32) 128 rfl at_127 rfl ?_
    refine go_iloadN 129 rfl at_128 rfl ?_
    refine go_bipush (16 : Int32) 131 rfl at_129 rfl ?_
    refine go_iushr 132 rfl at_131 rfl ?_
    refine go_sipush (255 : Int32) 135 rfl at_132 rfl ?_
    refine go_iand 136 rfl at_135 rfl ?_
    refine go_i2c 137 rfl at_136 rfl ?_
    refine go_castore 1 138 rfl at_137 rfl rfl (by decide) (Nat.le_of_ble_eq_true rfl) ?_
    show Go B0 Z a0 h0 _ 4 13 (mem1 a2 a3 a4 p4) 138 #[.val (.int p1), .val (.int p2), .val (.int p3), .val (.int p4), .val (.int p5), .val r1, .val r2, .val (.int (0 : Int32)), .val (.ref a1), .val (.ref a2), .val (.ref a4), .unset, .unset, .unset, .unset, .unset] []
    have hp14 := chr_rng _ (and255 p4)
    show Go B0 Z a0 h0 _ 4 13 [ob a2 "java/lang/String" [("java/lang/String", "value", "[B", (.ref a3)), ("java/lang/String", "coder", "B", (.int (0 : Int32)))], ar a4 .char [(.int (nar .char ((p4 &&& (255 : Int32)).toUInt32.toUInt16.toUInt32.toInt32))), (.int (nar .char ((((p4.toUInt32 >>> ((8 : Int32) &&& 31).toUInt32).toInt32) &&& (255 : Int32)).toUInt32.toUInt16.toUInt32.toInt32))), (.int (nar .char ((((p4.toUInt32 >>> ((16 : Int32) &&& 31).toUInt32).toInt32) &&& (255 : Int32)).toUInt32.toUInt16.toUInt32.toInt32)))]] 138 #[.val (.int p1), .val (.int p2), .val (.int p3), .val (.int p4), .val (.int p5), .val r1, .val r2, .val (.int (0 : Int32)), .val (.ref a1), .val (.ref a2), .val (.ref a4), .unset, .unset, .unset, .unset, .unset] []
    generalize ep14 : (nar .char ((p4 &&& (255 : Int32)).toUInt32.toUInt16.toUInt32.toInt32)) = p14 at hp14 ⊢
    have hp15 := chr_rng _ (and255 ((p4.toUInt32 >>> ((8 : Int32) &&& 31).toUInt32).toInt32))
    show Go B0 Z a0 h0 _ 4 13 [ob a2 "java/lang/String" [("java/lang/String", "value", "[B", (.ref a3)), ("java/lang/String", "coder", "B", (.int (0 : Int32)))], ar a4 .char [(.int p14), (.int (nar .char ((((p4.toUInt32 >>> ((8 : Int32) &&& 31).toUInt32).toInt32) &&& (255 : Int32)).toUInt32.toUInt16.toUInt32.toInt32))), (.int (nar .char ((((p4.toUInt32 >>> ((16 : Int32) &&& 31).toUInt32).toInt32) &&& (255 : Int32)).toUInt32.toUInt16.toUInt32.toInt32)))]] 138 #[.val (.int p1), .val (.int p2), .val (.int p3), .val (.int p4), .val (.int p5), .val r1, .val r2, .val (.int (0 : Int32)), .val (.ref a1), .val (.ref a2), .val (.ref a4), .unset, .unset, .unset, .unset, .unset] []
    generalize ep15 : (nar .char ((((p4.toUInt32 >>> ((8 : Int32) &&& 31).toUInt32).toInt32) &&& (255 : Int32)).toUInt32.toUInt16.toUInt32.toInt32)) = p15 at hp15 ⊢
    have hp16 := chr_rng _ (and255 ((p4.toUInt32 >>> ((16 : Int32) &&& 31).toUInt32).toInt32))
    generalize ep16 : (nar .char ((((p4.toUInt32 >>> ((16 : Int32) &&& 31).toUInt32).toInt32) &&& (255 : Int32)).toUInt32.toUInt16.toUInt32.toInt32)) = p16 at hp16 ⊢
    refine go_new 141 rfl at_138 (wd hw 10 rfl) (wd hw 11 rfl) (wd hw 12 rfl) (by decide) (by decide) [("java/lang/String", "coder", "B", (.int (0 : Int32))), ("java/lang/String", "value", "[B", .null)] ⟨⟨Or.inr (wd hw 36 rfl), _, rfl, rfl⟩, ⟨⟨Or.inr (wd hw 38 rfl), _, rfl, rfl⟩, trivial⟩⟩ (by decide) (fun a5 => ?_)
    show Go B0 Z a0 h0 _ 5 17 [ob a2 "java/lang/String" [("java/lang/String", "value", "[B", (.ref a3)), ("java/lang/String", "coder", "B", (.int (0 : Int32)))], ar a4 .char [(.int p14), (.int p15), (.int p16)], ob a5 "java/lang/String" [("java/lang/String", "coder", "B", (.int (0 : Int32))), ("java/lang/String", "value", "[B", .null)]] 141 #[.val (.int p1), .val (.int p2), .val (.int p3), .val (.int p4), .val (.int p5), .val r1, .val r2, .val (.int (0 : Int32)), .val (.ref a1), .val (.ref a2), .val (.ref a4), .unset, .unset, .unset, .unset, .unset] [(.ref a5)]
    refine go_dup 142 rfl at_141 rfl rfl ?_
    refine go_aload 144 rfl at_142 rfl rfl ?_
    refine go_newStr [p14, p15, p16] 2 1 3 147 rfl at_144 rfl rfl 1 0 rfl rfl rfl rfl (by decide) (by decide) (by
        intro c hc
        simp only [List.mem_cons, List.not_mem_nil, or_false] at hc
        rcases hc with rfl | rfl | rfl
        · exact hp14
        · exact hp15
        · exact hp16) SC hzc (fun d hd => hw d (wstr d hd)) (wd hw 11 rfl) (wd hw 13 rfl) (wd hw 14 rfl) (wd hw 15 rfl) rfl 1 rfl (by decide) (by decide) (by decide) (by decide) (fun a6 => ?_)
    show Go B0 Z a0 h0 _ 6 20 (mem3 a2 a3 a4 p14 p15 p16 a5 a6) 147 #[.val (.int p1), .val (.int p2), .val (.int p3), .val (.int p4), .val (.int p5), .val r1, .val r2, .val (.int (0 : Int32)), .val (.ref a1), .val (.ref a2), .val (.ref a4), .unset, .unset, .unset, .unset, .unset] [(.ref a5)]
    refine Go.sub (ds' := [ob a2 "java/lang/String" [("java/lang/String", "value", "[B", (.ref a3)), ("java/lang/String", "coder", "B", (.int (0 : Int32)))], ob a5 "java/lang/String" [("java/lang/String", "value", "[B", (.ref a6)), ("java/lang/String", "coder", "B", (.int (0 : Int32)))]]) (.cons₂ _ (.cons _ (.cons₂ _ (.cons _ .slnil)))) ?_
    refine go_astore #[.val (.int p1), .val (.int p2), .val (.int p3), .val (.int p4), .val (.int p5), .val r1, .val r2, .val (.int (0 : Int32)), .val (.ref a1), .val (.ref a2), .val (.ref a4), .val (.ref a5), .unset, .unset, .unset, .unset] 149 rfl at_147 rfl rfl rfl ?_
    refine go_iload 151 rfl at_149 rfl ?_
    refine go_iloadN 152 rfl at_151 rfl ?_
    refine go_icmp 161 155 rfl (by decide) rfl at_152 rfl (fun (hc152_6 : p5.toInt ≠ p2.toInt) => ?_) (fun (hc152_6 : ¬ (p5.toInt ≠ p2.toInt)) => ?_)
    · refine go_iload 163 rfl at_161 rfl ?_
      refine go_istore #[.val (.int p1), .val (.int p2), .val (.int p3), .val (.int p4), .val (.int p5), .val r1, .val r2, .val (.int (0 : Int32)), .val (.ref a1), .val (.ref a2), .val (.ref a4), .val (.ref a5), .val (.int p5), .unset, .unset, .unset] 165 rfl at_163 rfl rfl ?_
      refine go_new 168 rfl at_165 (wd hw 39 rfl) (wd hw 40 rfl) (wd hw 41 rfl) (by decide) (by decide) [("com/example/layered_locks/layeredlocks/AloneLocks", "paths", "[Ljava/lang/String;", .null), ("com/example/layered_locks/layeredlocks/AloneLocks", "lengths", "[I", .null), ("com/example/layered_locks/layeredlocks/AloneLocks", "modes", "[Lcom/example/layered_locks/layeredlocks/LockMode;", .null), ("com/example/layered_locks/layeredlocks/AloneLocks", "owner", "[Ljava/lang/Object;", .null), ("com/example/layered_locks/layeredlocks/AloneLocks", "latch", "Lcom/example/layered_locks/layeredlocks/Latch;", .null), ("com/example/layered_locks/layeredlocks/AloneLocks", "size", "I", (.int (0 : Int32)))] ⟨⟨Or.inr (wd hw 49 rfl), _, rfl, rfl⟩, ⟨⟨Or.inr (wd hw 52 rfl), _, rfl, rfl⟩, ⟨⟨Or.inr (wd hw 56 rfl), _, rfl, rfl⟩, ⟨⟨Or.inr (wd hw 64 rfl), _, rfl, rfl⟩, ⟨⟨Or.inr (wd hw 78 rfl), _, rfl, rfl⟩, ⟨⟨Or.inl (wd hw 85 rfl), _, rfl, rfl⟩, trivial⟩⟩⟩⟩⟩⟩ (by decide) (fun a7 => ?_)
      show Go B0 Z a0 h0 _ 7 27 (mem4 a2 a3 a5 a6 a7) 168 #[.val (.int p1), .val (.int p2), .val (.int p3), .val (.int p4), .val (.int p5), .val r1, .val r2, .val (.int (0 : Int32)), .val (.ref a1), .val (.ref a2), .val (.ref a4), .val (.ref a5), .val (.int p5), .unset, .unset, .unset] [(.ref a7)]
      refine go_dup 169 rfl at_168 rfl rfl ?_
      refine Go.front 2 (Nat.le_of_ble_eq_true rfl) ?_
      show Go B0 Z a0 h0 _ 7 27 (mem5 a7 a2 a3 a5 a6) 169 #[.val (.int p1), .val (.int p2), .val (.int p3), .val (.int p4), .val (.int p5), .val r1, .val r2, .val (.int (0 : Int32)), .val (.ref a1), .val (.ref a2), .val (.ref a4), .val (.ref a5), .val (.int p5), .unset, .unset, .unset] [(.ref a7), (.ref a7)]
      refine go_callI 172 rfl at_169 rfl (wd hw 42 rfl) (wd hw 43 rfl) (wd hw 41 rfl) (wd hw 44 rfl) (by decide) (Met.frame [ob a2 "java/lang/String" [("java/lang/String", "value", "[B", (.ref a3)), ("java/lang/String", "coder", "B", (.int (0 : Int32)))], ob a5 "java/lang/String" [("java/lang/String", "value", "[B", (.ref a6)), ("java/lang/String", "coder", "B", (.int (0 : Int32)))]] (mt8 Z a0 hw h0 r1 hr1 r2 hr2 a7)) (argsL := []) (rest := [(.ref a7)]) rfl (ret := none) (ps := []) (by decide +kernel) rfl rfl 1 rfl (by decide) (by decide) (by decide) (by decide) ?_
      rintro _ _ ⟨_, ⟨a8, a9, a10, a11, a12, a13, rfl, rfl⟩, rfl⟩
      show Go B0 Z a0 h0 _ 13 142 (mem23 a8 a9 a10 a7 a11 a12 a13 a2 a3 a5 a6) 172 #[.val (.int p1), .val (.int p2), .val (.int p3), .val (.int p4), .val (.int p5), .val r1, .val r2, .val (.int (0 : Int32)), .val (.ref a1), .val (.ref a2), .val (.ref a4), .val (.ref a5), .val (.int p5), .unset, .unset, .unset] [(.ref a7)]
      refine Go.sub (ds' := (mem24 a7 a11 a12 a13 a10 a9 a2 a3 a5 a6)) (.cons _ (.cons _ (.cons _ (.cons₂ _ (.cons₂ _ (.cons₂ _ (.cons₂ _ (.cons₂ _ (.cons₂ _ .slnil))))))))) ?_
      refine go_astore #[.val (.int p1), .val (.int p2), .val (.int p3), .val (.int p4), .val (.int p5), .val r1, .val r2, .val (.int (0 : Int32)), .val (.ref a1), .val (.ref a2), .val (.ref a4), .val (.ref a5), .val (.int p5), .val (.ref a7), .unset, .unset] 174 rfl at_172 rfl rfl rfl ?_
      refine go_iconst (0 : Int32) 175 rfl at_174 rfl ?_
      refine go_istore #[.val (.int p1), .val (.int p2), .val (.int p3), .val (.int p4), .val (.int p5), .val r1, .val r2, .val (.int (0 : Int32)), .val (.ref a1), .val (.ref a2), .val (.ref a4), .val (.ref a5), .val (.int p5), .val (.ref a7), .val (.int (0 : Int32)), .unset] 177 rfl at_175 rfl rfl ?_
      refine go_iload 179 rfl at_177 rfl ?_
      refine go_if 196 182 rfl (by decide) rfl at_179 rfl (fun (hc179 : (0 : Int) = 0) => ?_) (fun (hc179 : ¬ ((0 : Int) = 0)) => absurd hc179 (by decide))
      refine go_aload 198 rfl at_196 rfl rfl ?_
      refine go_aload 200 rfl at_198 rfl rfl ?_
      refine go_iloadN 201 rfl at_200 rfl ?_
      refine go_aload 203 rfl at_201 rfl hr1.isR ?_
      refine go_callV 206 rfl at_203 (wd hw 79 rfl) (wd hw 80 rfl) (wd hw 82 rfl) (wd hw 81 rfl) (wd hw 41 rfl) (wd hw 83 rfl) (by decide) (Mo.exa (i := 0) rfl) (Met.frame [ob a5 "java/lang/String" [("java/lang/String", "value", "[B", (.ref a6)), ("java/lang/String", "coder", "B", (.int (0 : Int32)))]] (mt12 Z a0 hw h0 r1 hr1 r2 hr2 a7 a11 a12 a13 a10 a9 a2 a3 p2)) (argsL := [(.ref a2), (.int p2), r1]) (rest := []) rfl (ps := [(.object "java/lang/String"), .int, (.object "com/example/layered_locks/layeredlocks/LockMode")]) (by decide +kernel) rfl rfl 0 rfl (by decide) (by decide) (by decide) (by decide) ?_
      rintro _ _ ⟨_, ⟨rfl, rfl⟩, rfl⟩
      show Go B0 Z a0 h0 _ 13 142 (mem30 a7 a11 a12 a13 a10 a9 a2 p2 r1 a3 a5 a6) 206 #[.val (.int p1), .val (.int p2), .val (.int p3), .val (.int p4), .val (.int p5), .val r1, .val r2, .val (.int (0 : Int32)), .val (.ref a1), .val (.ref a2), .val (.ref a4), .val (.ref a5), .val (.int p5), .val (.ref a7), .val (.int (0 : Int32)), .unset] []
      refine go_aload 208 rfl at_206 rfl rfl ?_
      refine go_callV 211 rfl at_208 (wd hw 87 rfl) (wd hw 88 rfl) (wd hw 90 rfl) (wd hw 89 rfl) (wd hw 41 rfl) (wd hw 91 rfl) (by decide) (Mo.exa (i := 0) rfl) (Met.frame [ob a5 "java/lang/String" [("java/lang/String", "value", "[B", (.ref a6)), ("java/lang/String", "coder", "B", (.int (0 : Int32)))]] (mt13 Z a0 hw h0 r1 hr1 r2 hr2 a7 a11 a12 a13 a10 a9 a2 p2 a3)) (argsL := []) (rest := []) rfl (ps := []) (by decide +kernel) rfl rfl 0 rfl (by decide) (by decide) (by decide) (by decide) ?_
      rintro _ _ ⟨_, ⟨rfl, rfl⟩, rfl⟩
      show Go B0 Z a0 h0 _ 13 142 (mem30 a7 a11 a12 a13 a10 a9 a2 p2 r1 a3 a5 a6) 211 #[.val (.int p1), .val (.int p2), .val (.int p3), .val (.int p4), .val (.int p5), .val r1, .val r2, .val (.int (0 : Int32)), .val (.ref a1), .val (.ref a2), .val (.ref a4), .val (.ref a5), .val (.int p5), .val (.ref a7), .val (.int (0 : Int32)), .unset] [(.int (1 : Int32))]
      refine go_iload 213 rfl at_211 rfl ?_
      refine go_iconst (1 : Int32) 214 rfl at_213 rfl ?_
      refine go_iadd 215 rfl at_214 rfl ?_
      show Go B0 Z a0 h0 _ 13 142 (mem30 a7 a11 a12 a13 a10 a9 a2 p2 r1 a3 a5 a6) 215 #[.val (.int p1), .val (.int p2), .val (.int p3), .val (.int p4), .val (.int p5), .val r1, .val r2, .val (.int (0 : Int32)), .val (.ref a1), .val (.ref a2), .val (.ref a4), .val (.ref a5), .val (.int p5), .val (.ref a7), .val (.int (0 : Int32)), .unset] [(.int (1 : Int32)), (.int (1 : Int32))]
      refine go_icmp 269 218 rfl (by decide) rfl at_215 rfl (fun (hc215 : (1 : Int) ≠ (1 : Int)) => absurd hc215 (by decide)) (fun (hc215 : ¬ ((1 : Int) ≠ (1 : Int))) => ?_)
      refine go_aload 220 rfl at_218 rfl rfl ?_
      refine go_iload 222 rfl at_220 rfl ?_
      refine go_callV 225 rfl at_222 (wd hw 92 rfl) (wd hw 93 rfl) (wd hw 95 rfl) (wd hw 94 rfl) (wd hw 41 rfl) (wd hw 96 rfl) (by decide) (Mo.exa (i := 0) rfl) (Met.frame [ob a5 "java/lang/String" [("java/lang/String", "value", "[B", (.ref a6)), ("java/lang/String", "coder", "B", (.int (0 : Int32)))]] (mt14 Z a0 hw h0 r1 hr1 r2 hr2 a7 a11 a12 a13 a10 a9 a2 p2 a3)) (argsL := [(.int (0 : Int32))]) (rest := []) rfl (ps := [.int]) (by decide +kernel) rfl rfl 0 rfl (by decide) (by decide) (by decide) (by decide) ?_
      rintro _ _ ⟨_, ⟨rfl, rfl⟩, rfl⟩
      show Go B0 Z a0 h0 _ 13 142 (mem30 a7 a11 a12 a13 a10 a9 a2 p2 r1 a3 a5 a6) 225 #[.val (.int p1), .val (.int p2), .val (.int p3), .val (.int p4), .val (.int p5), .val r1, .val r2, .val (.int (0 : Int32)), .val (.ref a1), .val (.ref a2), .val (.ref a4), .val (.ref a5), .val (.int p5), .val (.ref a7), .val (.int (0 : Int32)), .unset] [(.ref a2)]
      refine go_aload 227 rfl at_225 rfl rfl ?_
      refine go_acmp 269 230 rfl (by decide) rfl at_227 rfl rfl rfl (fun (hc227 : (Value.ref a2) ≠ (.ref a2)) => absurd hc227 (by simp)) (fun (hc227 : ¬ ((Value.ref a2) ≠ (.ref a2))) => ?_)
      refine go_aload 232 rfl at_230 rfl rfl ?_
      refine go_iload 234 rfl at_232 rfl ?_
      refine go_callV 237 rfl at_234 (wd hw 97 rfl) (wd hw 98 rfl) (wd hw 100 rfl) (wd hw 99 rfl) (wd hw 41 rfl) (wd hw 101 rfl) (by decide) (Mo.exa (i := 0) rfl) (Met.frame [ob a5 "java/lang/String" [("java/lang/String", "value", "[B", (.ref a6)), ("java/lang/String", "coder", "B", (.int (0 : Int32)))]] (mt15 Z a0 hw h0 r1 hr1 r2 hr2 a7 a11 a12 a13 a10 a9 a2 p2 a3)) (argsL := [(.int (0 : Int32))]) (rest := []) rfl (ps := [.int]) (by decide +kernel) rfl rfl 0 rfl (by decide) (by decide) (by decide) (by decide) ?_
      rintro _ _ ⟨_, ⟨rfl, rfl⟩, rfl⟩
      show Go B0 Z a0 h0 _ 13 142 (mem30 a7 a11 a12 a13 a10 a9 a2 p2 r1 a3 a5 a6) 237 #[.val (.int p1), .val (.int p2), .val (.int p3), .val (.int p4), .val (.int p5), .val r1, .val r2, .val (.int (0 : Int32)), .val (.ref a1), .val (.ref a2), .val (.ref a4), .val (.ref a5), .val (.int p5), .val (.ref a7), .val (.int (0 : Int32)), .unset] [(.int p2)]
      refine go_iloadN 238 rfl at_237 rfl ?_
      refine go_icmp 269 241 rfl (by decide) rfl at_238 rfl (fun (hc238 : p2.toInt ≠ p2.toInt) => absurd hc238 (by simp)) (fun (hc238 : ¬ (p2.toInt ≠ p2.toInt)) => ?_)
      refine go_aload 243 rfl at_241 rfl rfl ?_
      refine go_iload 245 rfl at_243 rfl ?_
      refine go_callV 248 rfl at_245 (wd hw 102 rfl) (wd hw 103 rfl) (wd hw 105 rfl) (wd hw 104 rfl) (wd hw 41 rfl) (wd hw 106 rfl) (by decide) (Mo.exa (i := 0) rfl) (Met.frame [ob a5 "java/lang/String" [("java/lang/String", "value", "[B", (.ref a6)), ("java/lang/String", "coder", "B", (.int (0 : Int32)))]] (mt16 Z a0 hw h0 r1 hr1 r2 hr2 a7 a11 a12 a13 a10 a9 a2 p2 a3)) (argsL := [(.int (0 : Int32))]) (rest := []) rfl (ps := [.int]) (by decide +kernel) rfl rfl 0 rfl (by decide) (by decide) (by decide) (by decide) ?_
      rintro _ _ ⟨_, ⟨rfl, rfl⟩, rfl⟩
      show Go B0 Z a0 h0 _ 13 142 (mem30 a7 a11 a12 a13 a10 a9 a2 p2 r1 a3 a5 a6) 248 #[.val (.int p1), .val (.int p2), .val (.int p3), .val (.int p4), .val (.int p5), .val r1, .val r2, .val (.int (0 : Int32)), .val (.ref a1), .val (.ref a2), .val (.ref a4), .val (.ref a5), .val (.int p5), .val (.ref a7), .val (.int (0 : Int32)), .unset] [r1]
      refine go_aload 250 rfl at_248 rfl hr1.isR ?_
      refine go_acmp 269 253 rfl (by decide) rfl at_250 rfl hr1.isR hr1.isR (fun (hc250 : r1 ≠ r1) => absurd hc250 (by simp)) (fun (hc250 : ¬ (r1 ≠ r1)) => ?_)
      refine go_aload 255 rfl at_253 rfl rfl ?_
      refine go_iload 257 rfl at_255 rfl ?_
      refine go_iconst (1 : Int32) 258 rfl at_257 rfl ?_
      refine go_iadd 259 rfl at_258 rfl ?_
      show Go B0 Z a0 h0 _ 13 142 (mem30 a7 a11 a12 a13 a10 a9 a2 p2 r1 a3 a5 a6) 259 #[.val (.int p1), .val (.int p2), .val (.int p3), .val (.int p4), .val (.int p5), .val r1, .val r2, .val (.int (0 : Int32)), .val (.ref a1), .val (.ref a2), .val (.ref a4), .val (.ref a5), .val (.int p5), .val (.ref a7), .val (.int (0 : Int32)), .unset] [(.int (1 : Int32)), (.ref a7)]
      refine go_callV 262 rfl at_259 (wd hw 92 rfl) (wd hw 93 rfl) (wd hw 95 rfl) (wd hw 94 rfl) (wd hw 41 rfl) (wd hw 96 rfl) (by decide) (Mo.exa (i := 0) rfl) (Met.frame [ob a5 "java/lang/String" [("java/lang/String", "value", "[B", (.ref a6)), ("java/lang/String", "coder", "B", (.int (0 : Int32)))]] (mt17 Z a0 hw h0 r1 hr1 r2 hr2 a7 a11 a12 a13 a10 a9 a2 p2 a3)) (argsL := [(.int (1 : Int32))]) (rest := []) rfl (ps := [.int]) (by decide +kernel) rfl rfl 0 rfl (by decide) (by decide) (by decide) (by decide) ?_
      rintro _ _ ⟨_, ⟨rfl, rfl⟩, rfl⟩
      show Go B0 Z a0 h0 _ 13 142 (mem30 a7 a11 a12 a13 a10 a9 a2 p2 r1 a3 a5 a6) 262 #[.val (.int p1), .val (.int p2), .val (.int p3), .val (.int p4), .val (.int p5), .val r1, .val r2, .val (.int (0 : Int32)), .val (.ref a1), .val (.ref a2), .val (.ref a4), .val (.ref a5), .val (.int p5), .val (.ref a7), .val (.int (0 : Int32)), .unset] [.null]
      refine go_ifnonnullN 265 rfl at_262 rfl ?_
      refine go_iconst (1 : Int32) 266 rfl at_265 rfl ?_
      refine go_goto 270 (by decide) rfl at_266 ?_
      refine go_istore #[.val (.int p1), .val (.int p2), .val (.int p3), .val (.int p4), .val (.int p5), .val r1, .val r2, .val (.int (0 : Int32)), .val (.ref a1), .val (.ref a2), .val (.ref a4), .val (.ref a5), .val (.int p5), .val (.ref a7), .val (.int (0 : Int32)), .val (.int (1 : Int32))] 272 rfl at_270 rfl rfl ?_
      refine go_iload 274 rfl at_272 rfl ?_
      refine go_if 322 277 rfl (by decide) rfl at_274 rfl (fun (hc274 : (0 : Int) = 0) => ?_) (fun (hc274 : ¬ ((0 : Int) = 0)) => absurd hc274 (by decide))
      refine go_iload 324 rfl at_322 rfl ?_
      exact go_ireturn at_324 rfl (Or.inr (Or.inl rfl)) rfl rfl (by decide) (by decide) rfl
    · refine go_iloadN 156 rfl at_155 rfl ?_
      refine go_iconst (1 : Int32) 157 rfl at_156 rfl ?_
      refine go_ixor 158 rfl at_157 rfl ?_
      refine go_goto 163 (by decide) rfl at_158 ?_
      refine go_istore #[.val (.int p1), .val (.int p2), .val (.int p3), .val (.int p4), .val (.int p5), .val r1, .val r2, .val (.int (0 : Int32)), .val (.ref a1), .val (.ref a2), .val (.ref a4), .val (.ref a5), .val (.int (p2 ^^^ (1 : Int32))), .unset, .unset, .unset] 165 rfl at_163 rfl rfl ?_
      refine go_new 168 rfl at_165 (wd hw 39 rfl) (wd hw 40 rfl) (wd hw 41 rfl) (by decide) (by decide) [("com/example/layered_locks/layeredlocks/AloneLocks", "paths", "[Ljava/lang/String;", .null), ("com/example/layered_locks/layeredlocks/AloneLocks", "lengths", "[I", .null), ("com/example/layered_locks/layeredlocks/AloneLocks", "modes", "[Lcom/example/layered_locks/layeredlocks/LockMode;", .null), ("com/example/layered_locks/layeredlocks/AloneLocks", "owner", "[Ljava/lang/Object;", .null), ("com/example/layered_locks/layeredlocks/AloneLocks", "latch", "Lcom/example/layered_locks/layeredlocks/Latch;", .null), ("com/example/layered_locks/layeredlocks/AloneLocks", "size", "I", (.int (0 : Int32)))] ⟨⟨Or.inr (wd hw 49 rfl), _, rfl, rfl⟩, ⟨⟨Or.inr (wd hw 52 rfl), _, rfl, rfl⟩, ⟨⟨Or.inr (wd hw 56 rfl), _, rfl, rfl⟩, ⟨⟨Or.inr (wd hw 64 rfl), _, rfl, rfl⟩, ⟨⟨Or.inr (wd hw 78 rfl), _, rfl, rfl⟩, ⟨⟨Or.inl (wd hw 85 rfl), _, rfl, rfl⟩, trivial⟩⟩⟩⟩⟩⟩ (by decide) (fun a14 => ?_)
      show Go B0 Z a0 h0 _ 7 27 (mem4 a2 a3 a5 a6 a14) 168 #[.val (.int p1), .val (.int p2), .val (.int p3), .val (.int p4), .val (.int p5), .val r1, .val r2, .val (.int (0 : Int32)), .val (.ref a1), .val (.ref a2), .val (.ref a4), .val (.ref a5), .val (.int (p2 ^^^ (1 : Int32))), .unset, .unset, .unset] [(.ref a14)]
      refine go_dup 169 rfl at_168 rfl rfl ?_
      refine Go.front 2 (Nat.le_of_ble_eq_true rfl) ?_
      show Go B0 Z a0 h0 _ 7 27 (mem5 a14 a2 a3 a5 a6) 169 #[.val (.int p1), .val (.int p2), .val (.int p3), .val (.int p4), .val (.int p5), .val r1, .val r2, .val (.int (0 : Int32)), .val (.ref a1), .val (.ref a2), .val (.ref a4), .val (.ref a5), .val (.int (p2 ^^^ (1 : Int32))), .unset, .unset, .unset] [(.ref a14), (.ref a14)]
      refine go_callI 172 rfl at_169 rfl (wd hw 42 rfl) (wd hw 43 rfl) (wd hw 41 rfl) (wd hw 44 rfl) (by decide) (Met.frame [ob a2 "java/lang/String" [("java/lang/String", "value", "[B", (.ref a3)), ("java/lang/String", "coder", "B", (.int (0 : Int32)))], ob a5 "java/lang/String" [("java/lang/String", "value", "[B", (.ref a6)), ("java/lang/String", "coder", "B", (.int (0 : Int32)))]] (mt8 Z a0 hw h0 r1 hr1 r2 hr2 a14)) (argsL := []) (rest := [(.ref a14)]) rfl (ret := none) (ps := []) (by decide +kernel) rfl rfl 1 rfl (by decide) (by decide) (by decide) (by decide) ?_
      rintro _ _ ⟨_, ⟨a15, a16, a17, a18, a19, a20, rfl, rfl⟩, rfl⟩
      show Go B0 Z a0 h0 _ 13 142 (mem23 a15 a16 a17 a14 a18 a19 a20 a2 a3 a5 a6) 172 #[.val (.int p1), .val (.int p2), .val (.int p3), .val (.int p4), .val (.int p5), .val r1, .val r2, .val (.int (0 : Int32)), .val (.ref a1), .val (.ref a2), .val (.ref a4), .val (.ref a5), .val (.int (p2 ^^^ (1 : Int32))), .unset, .unset, .unset] [(.ref a14)]
      refine Go.sub (ds' := (mem24 a14 a18 a19 a20 a17 a16 a2 a3 a5 a6)) (.cons _ (.cons _ (.cons _ (.cons₂ _ (.cons₂ _ (.cons₂ _ (.cons₂ _ (.cons₂ _ (.cons₂ _ .slnil))))))))) ?_
      refine go_astore #[.val (.int p1), .val (.int p2), .val (.int p3), .val (.int p4), .val (.int p5), .val r1, .val r2, .val (.int (0 : Int32)), .val (.ref a1), .val (.ref a2), .val (.ref a4), .val (.ref a5), .val (.int (p2 ^^^ (1 : Int32))), .val (.ref a14), .unset, .unset] 174 rfl at_172 rfl rfl rfl ?_
      refine go_iconst (0 : Int32) 175 rfl at_174 rfl ?_
      refine go_istore #[.val (.int p1), .val (.int p2), .val (.int p3), .val (.int p4), .val (.int p5), .val r1, .val r2, .val (.int (0 : Int32)), .val (.ref a1), .val (.ref a2), .val (.ref a4), .val (.ref a5), .val (.int (p2 ^^^ (1 : Int32))), .val (.ref a14), .val (.int (0 : Int32)), .unset] 177 rfl at_175 rfl rfl ?_
      refine go_iload 179 rfl at_177 rfl ?_
      refine go_if 196 182 rfl (by decide) rfl at_179 rfl (fun (hc179 : (0 : Int) = 0) => ?_) (fun (hc179 : ¬ ((0 : Int) = 0)) => absurd hc179 (by decide))
      refine go_aload 198 rfl at_196 rfl rfl ?_
      refine go_aload 200 rfl at_198 rfl rfl ?_
      refine go_iloadN 201 rfl at_200 rfl ?_
      refine go_aload 203 rfl at_201 rfl hr1.isR ?_
      refine go_callV 206 rfl at_203 (wd hw 79 rfl) (wd hw 80 rfl) (wd hw 82 rfl) (wd hw 81 rfl) (wd hw 41 rfl) (wd hw 83 rfl) (by decide) (Mo.exa (i := 0) rfl) (Met.frame [ob a5 "java/lang/String" [("java/lang/String", "value", "[B", (.ref a6)), ("java/lang/String", "coder", "B", (.int (0 : Int32)))]] (mt12 Z a0 hw h0 r1 hr1 r2 hr2 a14 a18 a19 a20 a17 a16 a2 a3 p2)) (argsL := [(.ref a2), (.int p2), r1]) (rest := []) rfl (ps := [(.object "java/lang/String"), .int, (.object "com/example/layered_locks/layeredlocks/LockMode")]) (by decide +kernel) rfl rfl 0 rfl (by decide) (by decide) (by decide) (by decide) ?_
      rintro _ _ ⟨_, ⟨rfl, rfl⟩, rfl⟩
      show Go B0 Z a0 h0 _ 13 142 (mem30 a14 a18 a19 a20 a17 a16 a2 p2 r1 a3 a5 a6) 206 #[.val (.int p1), .val (.int p2), .val (.int p3), .val (.int p4), .val (.int p5), .val r1, .val r2, .val (.int (0 : Int32)), .val (.ref a1), .val (.ref a2), .val (.ref a4), .val (.ref a5), .val (.int (p2 ^^^ (1 : Int32))), .val (.ref a14), .val (.int (0 : Int32)), .unset] []
      refine go_aload 208 rfl at_206 rfl rfl ?_
      refine go_callV 211 rfl at_208 (wd hw 87 rfl) (wd hw 88 rfl) (wd hw 90 rfl) (wd hw 89 rfl) (wd hw 41 rfl) (wd hw 91 rfl) (by decide) (Mo.exa (i := 0) rfl) (Met.frame [ob a5 "java/lang/String" [("java/lang/String", "value", "[B", (.ref a6)), ("java/lang/String", "coder", "B", (.int (0 : Int32)))]] (mt13 Z a0 hw h0 r1 hr1 r2 hr2 a14 a18 a19 a20 a17 a16 a2 p2 a3)) (argsL := []) (rest := []) rfl (ps := []) (by decide +kernel) rfl rfl 0 rfl (by decide) (by decide) (by decide) (by decide) ?_
      rintro _ _ ⟨_, ⟨rfl, rfl⟩, rfl⟩
      show Go B0 Z a0 h0 _ 13 142 (mem30 a14 a18 a19 a20 a17 a16 a2 p2 r1 a3 a5 a6) 211 #[.val (.int p1), .val (.int p2), .val (.int p3), .val (.int p4), .val (.int p5), .val r1, .val r2, .val (.int (0 : Int32)), .val (.ref a1), .val (.ref a2), .val (.ref a4), .val (.ref a5), .val (.int (p2 ^^^ (1 : Int32))), .val (.ref a14), .val (.int (0 : Int32)), .unset] [(.int (1 : Int32))]
      refine go_iload 213 rfl at_211 rfl ?_
      refine go_iconst (1 : Int32) 214 rfl at_213 rfl ?_
      refine go_iadd 215 rfl at_214 rfl ?_
      show Go B0 Z a0 h0 _ 13 142 (mem30 a14 a18 a19 a20 a17 a16 a2 p2 r1 a3 a5 a6) 215 #[.val (.int p1), .val (.int p2), .val (.int p3), .val (.int p4), .val (.int p5), .val r1, .val r2, .val (.int (0 : Int32)), .val (.ref a1), .val (.ref a2), .val (.ref a4), .val (.ref a5), .val (.int (p2 ^^^ (1 : Int32))), .val (.ref a14), .val (.int (0 : Int32)), .unset] [(.int (1 : Int32)), (.int (1 : Int32))]
      refine go_icmp 269 218 rfl (by decide) rfl at_215 rfl (fun (hc215 : (1 : Int) ≠ (1 : Int)) => absurd hc215 (by decide)) (fun (hc215 : ¬ ((1 : Int) ≠ (1 : Int))) => ?_)
      refine go_aload 220 rfl at_218 rfl rfl ?_
      refine go_iload 222 rfl at_220 rfl ?_
      refine go_callV 225 rfl at_222 (wd hw 92 rfl) (wd hw 93 rfl) (wd hw 95 rfl) (wd hw 94 rfl) (wd hw 41 rfl) (wd hw 96 rfl) (by decide) (Mo.exa (i := 0) rfl) (Met.frame [ob a5 "java/lang/String" [("java/lang/String", "value", "[B", (.ref a6)), ("java/lang/String", "coder", "B", (.int (0 : Int32)))]] (mt14 Z a0 hw h0 r1 hr1 r2 hr2 a14 a18 a19 a20 a17 a16 a2 p2 a3)) (argsL := [(.int (0 : Int32))]) (rest := []) rfl (ps := [.int]) (by decide +kernel) rfl rfl 0 rfl (by decide) (by decide) (by decide) (by decide) ?_
      rintro _ _ ⟨_, ⟨rfl, rfl⟩, rfl⟩
      show Go B0 Z a0 h0 _ 13 142 (mem30 a14 a18 a19 a20 a17 a16 a2 p2 r1 a3 a5 a6) 225 #[.val (.int p1), .val (.int p2), .val (.int p3), .val (.int p4), .val (.int p5), .val r1, .val r2, .val (.int (0 : Int32)), .val (.ref a1), .val (.ref a2), .val (.ref a4), .val (.ref a5), .val (.int (p2 ^^^ (1 : Int32))), .val (.ref a14), .val (.int (0 : Int32)), .unset] [(.ref a2)]
      refine go_aload 227 rfl at_225 rfl rfl ?_
      refine go_acmp 269 230 rfl (by decide) rfl at_227 rfl rfl rfl (fun (hc227 : (Value.ref a2) ≠ (.ref a2)) => absurd hc227 (by simp)) (fun (hc227 : ¬ ((Value.ref a2) ≠ (.ref a2))) => ?_)
      refine go_aload 232 rfl at_230 rfl rfl ?_
      refine go_iload 234 rfl at_232 rfl ?_
      refine go_callV 237 rfl at_234 (wd hw 97 rfl) (wd hw 98 rfl) (wd hw 100 rfl) (wd hw 99 rfl) (wd hw 41 rfl) (wd hw 101 rfl) (by decide) (Mo.exa (i := 0) rfl) (Met.frame [ob a5 "java/lang/String" [("java/lang/String", "value", "[B", (.ref a6)), ("java/lang/String", "coder", "B", (.int (0 : Int32)))]] (mt15 Z a0 hw h0 r1 hr1 r2 hr2 a14 a18 a19 a20 a17 a16 a2 p2 a3)) (argsL := [(.int (0 : Int32))]) (rest := []) rfl (ps := [.int]) (by decide +kernel) rfl rfl 0 rfl (by decide) (by decide) (by decide) (by decide) ?_
      rintro _ _ ⟨_, ⟨rfl, rfl⟩, rfl⟩
      show Go B0 Z a0 h0 _ 13 142 (mem30 a14 a18 a19 a20 a17 a16 a2 p2 r1 a3 a5 a6) 237 #[.val (.int p1), .val (.int p2), .val (.int p3), .val (.int p4), .val (.int p5), .val r1, .val r2, .val (.int (0 : Int32)), .val (.ref a1), .val (.ref a2), .val (.ref a4), .val (.ref a5), .val (.int (p2 ^^^ (1 : Int32))), .val (.ref a14), .val (.int (0 : Int32)), .unset] [(.int p2)]
      refine go_iloadN 238 rfl at_237 rfl ?_
      refine go_icmp 269 241 rfl (by decide) rfl at_238 rfl (fun (hc238 : p2.toInt ≠ p2.toInt) => absurd hc238 (by simp)) (fun (hc238 : ¬ (p2.toInt ≠ p2.toInt)) => ?_)
      refine go_aload 243 rfl at_241 rfl rfl ?_
      refine go_iload 245 rfl at_243 rfl ?_
      refine go_callV 248 rfl at_245 (wd hw 102 rfl) (wd hw 103 rfl) (wd hw 105 rfl) (wd hw 104 rfl) (wd hw 41 rfl) (wd hw 106 rfl) (by decide) (Mo.exa (i := 0) rfl) (Met.frame [ob a5 "java/lang/String" [("java/lang/String", "value", "[B", (.ref a6)), ("java/lang/String", "coder", "B", (.int (0 : Int32)))]] (mt16 Z a0 hw h0 r1 hr1 r2 hr2 a14 a18 a19 a20 a17 a16 a2 p2 a3)) (argsL := [(.int (0 : Int32))]) (rest := []) rfl (ps := [.int]) (by decide +kernel) rfl rfl 0 rfl (by decide) (by decide) (by decide) (by decide) ?_
      rintro _ _ ⟨_, ⟨rfl, rfl⟩, rfl⟩
      show Go B0 Z a0 h0 _ 13 142 (mem30 a14 a18 a19 a20 a17 a16 a2 p2 r1 a3 a5 a6) 248 #[.val (.int p1), .val (.int p2), .val (.int p3), .val (.int p4), .val (.int p5), .val r1, .val r2, .val (.int (0 : Int32)), .val (.ref a1), .val (.ref a2), .val (.ref a4), .val (.ref a5), .val (.int (p2 ^^^ (1 : Int32))), .val (.ref a14), .val (.int (0 : Int32)), .unset] [r1]
      refine go_aload 250 rfl at_248 rfl hr1.isR ?_
      refine go_acmp 269 253 rfl (by decide) rfl at_250 rfl hr1.isR hr1.isR (fun (hc250 : r1 ≠ r1) => absurd hc250 (by simp)) (fun (hc250 : ¬ (r1 ≠ r1)) => ?_)
      refine go_aload 255 rfl at_253 rfl rfl ?_
      refine go_iload 257 rfl at_255 rfl ?_
      refine go_iconst (1 : Int32) 258 rfl at_257 rfl ?_
      refine go_iadd 259 rfl at_258 rfl ?_
      show Go B0 Z a0 h0 _ 13 142 (mem30 a14 a18 a19 a20 a17 a16 a2 p2 r1 a3 a5 a6) 259 #[.val (.int p1), .val (.int p2), .val (.int p3), .val (.int p4), .val (.int p5), .val r1, .val r2, .val (.int (0 : Int32)), .val (.ref a1), .val (.ref a2), .val (.ref a4), .val (.ref a5), .val (.int (p2 ^^^ (1 : Int32))), .val (.ref a14), .val (.int (0 : Int32)), .unset] [(.int (1 : Int32)), (.ref a14)]
      refine go_callV 262 rfl at_259 (wd hw 92 rfl) (wd hw 93 rfl) (wd hw 95 rfl) (wd hw 94 rfl) (wd hw 41 rfl) (wd hw 96 rfl) (by decide) (Mo.exa (i := 0) rfl) (Met.frame [ob a5 "java/lang/String" [("java/lang/String", "value", "[B", (.ref a6)), ("java/lang/String", "coder", "B", (.int (0 : Int32)))]] (mt17 Z a0 hw h0 r1 hr1 r2 hr2 a14 a18 a19 a20 a17 a16 a2 p2 a3)) (argsL := [(.int (1 : Int32))]) (rest := []) rfl (ps := [.int]) (by decide +kernel) rfl rfl 0 rfl (by decide) (by decide) (by decide) (by decide) ?_
      rintro _ _ ⟨_, ⟨rfl, rfl⟩, rfl⟩
      show Go B0 Z a0 h0 _ 13 142 (mem30 a14 a18 a19 a20 a17 a16 a2 p2 r1 a3 a5 a6) 262 #[.val (.int p1), .val (.int p2), .val (.int p3), .val (.int p4), .val (.int p5), .val r1, .val r2, .val (.int (0 : Int32)), .val (.ref a1), .val (.ref a2), .val (.ref a4), .val (.ref a5), .val (.int (p2 ^^^ (1 : Int32))), .val (.ref a14), .val (.int (0 : Int32)), .unset] [.null]
      refine go_ifnonnullN 265 rfl at_262 rfl ?_
      refine go_iconst (1 : Int32) 266 rfl at_265 rfl ?_
      refine go_goto 270 (by decide) rfl at_266 ?_
      refine go_istore #[.val (.int p1), .val (.int p2), .val (.int p3), .val (.int p4), .val (.int p5), .val r1, .val r2, .val (.int (0 : Int32)), .val (.ref a1), .val (.ref a2), .val (.ref a4), .val (.ref a5), .val (.int (p2 ^^^ (1 : Int32))), .val (.ref a14), .val (.int (0 : Int32)), .val (.int (1 : Int32))] 272 rfl at_270 rfl rfl ?_
      refine go_iload 274 rfl at_272 rfl ?_
      refine go_if 322 277 rfl (by decide) rfl at_274 rfl (fun (hc274 : (0 : Int) = 0) => ?_) (fun (hc274 : ¬ ((0 : Int) = 0)) => absurd hc274 (by decide))
      refine go_iload 324 rfl at_322 rfl ?_
      exact go_ireturn at_324 rfl (Or.inr (Or.inl rfl)) rfl rfl (by decide) (by decide) rfl
  · refine go_iconst (1 : Int32) 39 rfl at_38 rfl ?_
    refine go_goto 43 (by decide) rfl at_39 ?_
    refine go_istore #[.val (.int p1), .val (.int p2), .val (.int p3), .val (.int p4), .val (.int p5), .val r1, .val r2, .val (.int (1 : Int32)), .unset, .unset, .unset, .unset, .unset, .unset, .unset, .unset] 45 rfl at_43 rfl rfl ?_
    refine go_iconst (3 : Int32) 46 rfl at_45 rfl ?_
    refine go_newarr 48 rfl at_46 rfl (wd hw 9 rfl) (by decide) 3 (by decide) (by decide) (by decide) (by decide) (fun a21 => ?_)
    show Go B0 Z a0 h0 _ 1 3 [ar a21 .char [(.int (0 : Int32)), (.int (0 : Int32)), (.int (0 : Int32))]] 48 #[.val (.int p1), .val (.int p2), .val (.int p3), .val (.int p4), .val (.int p5), .val r1, .val r2, .val (.int (1 : Int32)), .unset, .unset, .unset, .unset, .unset, .unset, .unset, .unset] [(.ref a21)]
    refine go_astore #[.val (.int p1), .val (.int p2), .val (.int p3), .val (.int p4), .val (.int p5), .val r1, .val r2, .val (.int (1 : Int32)), .val (.ref a21), .unset, .unset, .unset, .unset, .unset, .unset, .unset] 50 rfl at_48 rfl rfl rfl ?_
    refine go_aload 52 rfl at_50 rfl rfl ?_
    refine go_iconst (0 : Int32) 53 rfl at_52 rfl ?_
    refine go_iloadN 54 rfl at_53 rfl ?_
    refine go_sipush (255 : Int32) 57 rfl at_54 rfl ?_
    refine go_iand 58 rfl at_57 rfl ?_
    refine go_i2c 59 rfl at_58 rfl ?_
    refine go_castore 0 60 rfl at_59 rfl rfl (by decide) (Nat.le_of_ble_eq_true rfl) ?_
    show Go B0 Z a0 h0 _ 1 3 [ar a21 .char [(.int (nar .char ((p1 &&& (255 : Int32)).toUInt32.toUInt16.toUInt32.toInt32))), (.int (0 : Int32)), (.int (0 : Int32))]] 60 #[.val (.int p1), .val (.int p2), .val (.int p3), .val (.int p4), .val (.int p5), .val r1, .val r2, .val (.int (1 : Int32)), .val (.ref a21), .unset, .unset, .unset, .unset, .unset, .unset, .unset] []
    refine go_aload 62 rfl at_60 rfl rfl ?_
    refine go_iconst (1 : Int32) 63 rfl at_62 rfl ?_
    refine go_iloadN 64 rfl at_63 rfl ?_
    refine go_bipush (8 : Int32) 66 rfl at_64 rfl ?_
    refine go_iushr 67 rfl at_66 rfl ?_
    refine go_sipush (255 : Int32) 70 rfl at_67 rfl ?_
    refine go_iand 71 rfl at_70 rfl ?_
    refine go_i2c 72 rfl at_71 rfl ?_
    refine go_castore 0 73 rfl at_72 rfl rfl (by decide) (Nat.le_of_ble_eq_true rfl) ?_
    show Go B0 Z a0 h0 _ 1 3 [ar a21 .char [(.int (nar .char ((p1 &&& (255 : Int32)).toUInt32.toUInt16.toUInt32.toInt32))), (.int (nar .char ((((p1.toUInt32 >>> ((8 : Int32) &&& 31).toUInt32).toInt32) &&& (255 : Int32)).toUInt32.toUInt16.toUInt32.toInt32))), (.int (0 : Int32))]] 73 #[.val (.int p1), .val (.int p2), .val (.int p3), .val (.int p4), .val (.int p5), .val r1, .val r2, .val (.int (1 : Int32)), .val (.ref a21), .unset, .unset, .unset, .unset, .unset, .unset, .unset] []
    refine go_aload 75 rfl at_73 rfl rfl ?_
    refine go_iconst (2 : Int32) 76 rfl at_75 rfl ?_
    refine go_iloadN 77 rfl at_76 rfl ?_
    refine go_bipush (16 : Int32) 79 rfl at_77 rfl ?_
    refine go_iushr 80 rfl at_79 rfl ?_
    refine go_sipush (255 : Int32) 83 rfl at_80 rfl ?_
    refine go_iand 84 rfl at_83 rfl ?_
    refine go_i2c 85 rfl at_84 rfl ?_
    refine go_castore 0 86 rfl at_85 rfl rfl (by decide) (Nat.le_of_ble_eq_true rfl) ?_
    show Go B0 Z a0 h0 _ 1 3 [ar a21 .char [(.int (nar .char ((p1 &&& (255 : Int32)).toUInt32.toUInt16.toUInt32.toInt32))), (.int (nar .char ((((p1.toUInt32 >>> ((8 : Int32) &&& 31).toUInt32).toInt32) &&& (255 : Int32)).toUInt32.toUInt16.toUInt32.toInt32))), (.int (nar .char ((((p1.toUInt32 >>> ((16 : Int32) &&& 31).toUInt32).toInt32) &&& (255 : Int32)).toUInt32.toUInt16.toUInt32.toInt32)))]] 86 #[.val (.int p1), .val (.int p2), .val (.int p3), .val (.int p4), .val (.int p5), .val r1, .val r2, .val (.int (1 : Int32)), .val (.ref a21), .unset, .unset, .unset, .unset, .unset, .unset, .unset] []
    have hp17 := chr_rng _ (and255 p1)
    generalize ep17 : (nar .char ((p1 &&& (255 : Int32)).toUInt32.toUInt16.toUInt32.toInt32)) = p17 at hp17 ⊢
    have hp18 := chr_rng _ (and255 ((p1.toUInt32 >>> ((8 : Int32) &&& 31).toUInt32).toInt32))
    generalize ep18 : (nar .char ((((p1.toUInt32 >>> ((8 : Int32) &&& 31).toUInt32).toInt32) &&& (255 : Int32)).toUInt32.toUInt16.toUInt32.toInt32)) = p18 at hp18 ⊢
    have hp19 := chr_rng _ (and255 ((p1.toUInt32 >>> ((16 : Int32) &&& 31).toUInt32).toInt32))
    generalize ep19 : (nar .char ((((p1.toUInt32 >>> ((16 : Int32) &&& 31).toUInt32).toInt32) &&& (255 : Int32)).toUInt32.toUInt16.toUInt32.toInt32)) = p19 at hp19 ⊢
    refine go_new 89 rfl at_86 (wd hw 10 rfl) (wd hw 11 rfl) (wd hw 12 rfl) (by decide) (by decide) [("java/lang/String", "coder", "B", (.int (0 : Int32))), ("java/lang/String", "value", "[B", .null)] ⟨⟨Or.inr (wd hw 36 rfl), _, rfl, rfl⟩, ⟨⟨Or.inr (wd hw 38 rfl), _, rfl, rfl⟩, trivial⟩⟩ (by decide) (fun a22 => ?_)
    show Go B0 Z a0 h0 _ 2 7 [ar a21 .char [(.int p17), (.int p18), (.int p19)], ob a22 "java/lang/String" [("java/lang/String", "coder", "B", (.int (0 : Int32))), ("java/lang/String", "value", "[B", .null)]] 89 #[.val (.int p1), .val (.int p2), .val (.int p3), .val (.int p4), .val (.int p5), .val r1, .val r2, .val (.int (1 : Int32)), .val (.ref a21), .unset, .unset, .unset, .unset, .unset, .unset, .unset] [(.ref a22)]
    refine go_dup 90 rfl at_89 rfl rfl ?_
    refine go_aload 92 rfl at_90 rfl rfl ?_
    refine go_newStr [p17, p18, p19] 1 0 3 95 rfl at_92 rfl rfl 1 0 rfl rfl rfl rfl (by decide) (by decide) (by
        intro c hc
        simp only [List.mem_cons, List.not_mem_nil, or_false] at hc
        rcases hc with rfl | rfl | rfl
        · exact hp17
        · exact hp18
        · exact hp19) SC hzc (fun d hd => hw d (wstr d hd)) (wd hw 11 rfl) (wd hw 13 rfl) (wd hw 14 rfl) (wd hw 15 rfl) rfl 1 rfl (by decide) (by decide) (by decide) (by decide) (fun a23 => ?_)
    show Go B0 Z a0 h0 _ 3 10 [ar a21 .char [(.int p17), (.int p18), (.int p19)], ob a22 "java/lang/String" [("java/lang/String", "value", "[B", (.ref a23)), ("java/lang/String", "coder", "B", (.int (0 : Int32)))], ar a23 .byte [(.int (p17.toInt8.toInt32)), (.int (p18.toInt8.toInt32)), (.int (p19.toInt8.toInt32))]] 95 #[.val (.int p1), .val (.int p2), .val (.int p3), .val (.int p4), .val (.int p5), .val r1, .val r2, .val (.int (1 : Int32)), .val (.ref a21), .unset, .unset, .unset, .unset, .unset, .unset, .unset] [(.ref a22)]
    refine Go.sub (ds' := [ob a22 "java/lang/String" [("java/lang/String", "value", "[B", (.ref a23)), ("java/lang/String", "coder", "B", (.int (0 : Int32)))]]) (.cons _ (.cons₂ _ (.cons _ .slnil))) ?_
    refine go_astore #[.val (.int p1), .val (.int p2), .val (.int p3), .val (.int p4), .val (.int p5), .val r1, .val r2, .val (.int (1 : Int32)), .val (.ref a21), .val (.ref a22), .unset, .unset, .unset, .unset, .unset, .unset] 97 rfl at_95 rfl rfl rfl ?_
    refine go_iconst (3 : Int32) 98 rfl at_97 rfl ?_
    refine go_newarr 100 rfl at_98 rfl (wd hw 9 rfl) (by decide) 3 (by decide) (by decide) (by decide) (by decide) (fun a24 => ?_)
    show Go B0 Z a0 h0 _ 4 13 [ob a22 "java/lang/String" [("java/lang/String", "value", "[B", (.ref a23)), ("java/lang/String", "coder", "B", (.int (0 : Int32)))], ar a24 .char [(.int (0 : Int32)), (.int (0 : Int32)), (.int (0 : Int32))]] 100 #[.val (.int p1), .val (.int p2), .val (.int p3), .val (.int p4), .val (.int p5), .val r1, .val r2, .val (.int (1 : Int32)), .val (.ref a21), .val (.ref a22), .unset, .unset, .unset, .unset, .unset, .unset] [(.ref a24)]
    refine go_astore #[.val (.int p1), .val (.int p2), .val (.int p3), .val (.int p4), .val (.int p5), .val r1, .val r2, .val (.int (1 : Int32)), .val (.ref a21), .val (.ref a22), .val (.ref a24), .unset, .unset, .unset, .unset, .unset] 102 rfl at_100 rfl rfl rfl ?_
    refine go_aload 104 rfl at_102 rfl rfl ?_
    refine go_iconst (0 : Int32) 105 rfl at_104 rfl ?_
    refine go_iloadN 106 rfl at_105 rfl ?_
    refine go_sipush (255 : Int32) 109 rfl at_106 rfl ?_
    refine go_iand 110 rfl at_109 rfl ?_
    refine go_i2c 111 rfl at_110 rfl ?_
    refine go_castore 1 112 rfl at_111 rfl rfl (by decide) (Nat.le_of_ble_eq_true rfl) ?_
    show Go B0 Z a0 h0 _ 4 13 [ob a22 "java/lang/String" [("java/lang/String", "value", "[B", (.ref a23)), ("java/lang/String", "coder", "B", (.int (0 : Int32)))], ar a24 .char [(.int (nar .char ((p4 &&& (255 : Int32)).toUInt32.toUInt16.toUInt32.toInt32))), (.int (0 : Int32)), (.int (0 : Int32))]] 112 #[.val (.int p1), .val (.int p2), .val (.int p3), .val (.int p4), .val (.int p5), .val r1, .val r2, .val (.int (1 : Int32)), .val (.ref a21), .val (.ref a22), .val (.ref a24), .unset, .unset, .unset, .unset, .unset] []
    refine go_aload 114 rfl at_112 rfl rfl ?_
    refine go_iconst (1 : Int32) 115 rfl at_114 rfl ?_
    refine go_iloadN 116 rfl at_115 rfl ?_
    refine go_bipush (8 : Int32) 118 rfl at_116 rfl ?_
    refine go_iushr 119 rfl at_118 rfl ?_
    refine go_sipush (255 : Int32) 122 rfl at_119 rfl ?_
    refine go_iand 123 rfl at_122 rfl ?_
    refine go_i2c 124 rfl at_123 rfl ?_
    refine go_castore 1 125 rfl at_124 rfl rfl (by decide) (Nat.le_of_ble_eq_true rfl) ?_
    show Go B0 Z a0 h0 _ 4 13 [ob a22 "java/lang/String" [("java/lang/String", "value", "[B", (.ref a23)), ("java/lang/String", "coder", "B", (.int (0 : Int32)))], ar a24 .char [(.int (nar .char ((p4 &&& (255 : Int32)).toUInt32.toUInt16.toUInt32.toInt32))), (.int (nar .char ((((p4.toUInt32 >>> ((8 : Int32) &&& 31).toUInt32).toInt32) &&& (255 : Int32)).toUInt32.toUInt16.toUInt32.toInt32))), (.int (0 : Int32))]] 125 #[.val (.int p1), .val (.int p2), .val (.int p3), .val (.int p4), .val (.int p5), .val r1, .val r2, .val (.int (1 : Int32)), .val (.ref a21), .val (.ref a22), .val (.ref a24), .unset, .unset, .unset, .unset, .unset] []
    refine go_aload 127 rfl at_125 rfl rfl ?_
    refine go_iconst (2 : Int32) 128 rfl at_127 rfl ?_
    refine go_iloadN 129 rfl at_128 rfl ?_
    refine go_bipush (16 : Int32) 131 rfl at_129 rfl ?_
    refine go_iushr 132 rfl at_131 rfl ?_
    refine go_sipush (255 : Int32) 135 rfl at_132 rfl ?_
    refine go_iand 136 rfl at_135 rfl ?_
    refine go_i2c 137 rfl at_136 rfl ?_
    refine go_castore 1 138 rfl at_137 rfl rfl (by decide) (Nat.le_of_ble_eq_true rfl) ?_
    show Go B0 Z a0 h0 _ 4 13 (mem1 a22 a23 a24 p4) 138 #[.val (.int p1), .val (.int p2), .val (.int p3), .val (.int p4), .val (.int p5), .val r1, .val r2, .val (.int (1 : Int32)), .val (.ref a21), .val (.ref a22), .val (.ref a24), .unset, .unset, .unset, .unset, .unset] []
    have hp20 := chr_rng _ (and255 p4)
    show Go B0 Z a0 h0 _ 4 13 [ob a22 "java/lang/String" [("java/lang/String", "value", "[B", (.ref a23)), ("java/lang/String", "coder", "B", (.int (0 : Int32)))], ar a24 .char [(.int (nar .char ((p4 &&& (255 : Int32)).toUInt32.toUInt16.toUInt32.toInt32))), (.int (nar .char ((((p4.toUInt32 >>> ((8 : Int32) &&& 31).toUInt32).toInt32) &&& (255 : Int32)).toUInt32.toUInt16.toUInt32.toInt32))), (.int (nar .char ((((p4.toUInt32 >>> ((16 : Int32) &&& 31).toUInt32).toInt32) &&& (255 : Int32)).toUInt32.toUInt16.toUInt32.toInt32)))]] 138 #[.val (.int p1), .val (.int p2), .val (.int p3), .val (.int p4), .val (.int p5), .val r1, .val r2, .val (.int (1 : Int32)), .val (.ref a21), .val (.ref a22), .val (.ref a24), .unset, .unset, .unset, .unset, .unset] []
    generalize ep20 : (nar .char ((p4 &&& (255 : Int32)).toUInt32.toUInt16.toUInt32.toInt32)) = p20 at hp20 ⊢
    have hp21 := chr_rng _ (and255 ((p4.toUInt32 >>> ((8 : Int32) &&& 31).toUInt32).toInt32))
    show Go B0 Z a0 h0 _ 4 13 [ob a22 "java/lang/String" [("java/lang/String", "value", "[B", (.ref a23)), ("java/lang/String", "coder", "B", (.int (0 : Int32)))], ar a24 .char [(.int p20), (.int (nar .char ((((p4.toUInt32 >>> ((8 : Int32) &&& 31).toUInt32).toInt32) &&& (255 : Int32)).toUInt32.toUInt16.toUInt32.toInt32))), (.int (nar .char ((((p4.toUInt32 >>> ((16 : Int32) &&& 31).toUInt32).toInt32) &&& (255 : Int32)).toUInt32.toUInt16.toUInt32.toInt32)))]] 138 #[.val (.int p1), .val (.int p2), .val (.int p3), .val (.int p4), .val (.int p5), .val r1, .val r2, .val (.int (1 : Int32)), .val (.ref a21), .val (.ref a22), .val (.ref a24), .unset, .unset, .unset, .unset, .unset] []
    generalize ep21 : (nar .char ((((p4.toUInt32 >>> ((8 : Int32) &&& 31).toUInt32).toInt32) &&& (255 : Int32)).toUInt32.toUInt16.toUInt32.toInt32)) = p21 at hp21 ⊢
    have hp22 := chr_rng _ (and255 ((p4.toUInt32 >>> ((16 : Int32) &&& 31).toUInt32).toInt32))
    generalize ep22 : (nar .char ((((p4.toUInt32 >>> ((16 : Int32) &&& 31).toUInt32).toInt32) &&& (255 : Int32)).toUInt32.toUInt16.toUInt32.toInt32)) = p22 at hp22 ⊢
    refine go_new 141 rfl at_138 (wd hw 10 rfl) (wd hw 11 rfl) (wd hw 12 rfl) (by decide) (by decide) [("java/lang/String", "coder", "B", (.int (0 : Int32))), ("java/lang/String", "value", "[B", .null)] ⟨⟨Or.inr (wd hw 36 rfl), _, rfl, rfl⟩, ⟨⟨Or.inr (wd hw 38 rfl), _, rfl, rfl⟩, trivial⟩⟩ (by decide) (fun a25 => ?_)
    show Go B0 Z a0 h0 _ 5 17 [ob a22 "java/lang/String" [("java/lang/String", "value", "[B", (.ref a23)), ("java/lang/String", "coder", "B", (.int (0 : Int32)))], ar a24 .char [(.int p20), (.int p21), (.int p22)], ob a25 "java/lang/String" [("java/lang/String", "coder", "B", (.int (0 : Int32))), ("java/lang/String", "value", "[B", .null)]] 141 #[.val (.int p1), .val (.int p2), .val (.int p3), .val (.int p4), .val (.int p5), .val r1, .val r2, .val (.int (1 : Int32)), .val (.ref a21), .val (.ref a22), .val (.ref a24), .unset, .unset, .unset, .unset, .unset] [(.ref a25)]
    refine go_dup 142 rfl at_141 rfl rfl ?_
    refine go_aload 144 rfl at_142 rfl rfl ?_
    refine go_newStr [p20, p21, p22] 2 1 3 147 rfl at_144 rfl rfl 1 0 rfl rfl rfl rfl (by decide) (by decide) (by
        intro c hc
        simp only [List.mem_cons, List.not_mem_nil, or_false] at hc
        rcases hc with rfl | rfl | rfl
        · exact hp20
        · exact hp21
        · exact hp22) SC hzc (fun d hd => hw d (wstr d hd)) (wd hw 11 rfl) (wd hw 13 rfl) (wd hw 14 rfl) (wd hw 15 rfl) rfl 1 rfl (by decide) (by decide) (by decide) (by decide) (fun a26 => ?_)
    show Go B0 Z a0 h0 _ 6 20 (mem3 a22 a23 a24 p20 p21 p22 a25 a26) 147 #[.val (.int p1), .val (.int p2), .val (.int p3), .val (.int p4), .val (.int p5), .val r1, .val r2, .val (.int (1 : Int32)), .val (.ref a21), .val (.ref a22), .val (.ref a24), .unset, .unset, .unset, .unset, .unset] [(.ref a25)]
    refine Go.sub (ds' := [ob a22 "java/lang/String" [("java/lang/String", "value", "[B", (.ref a23)), ("java/lang/String", "coder", "B", (.int (0 : Int32)))], ob a25 "java/lang/String" [("java/lang/String", "value", "[B", (.ref a26)), ("java/lang/String", "coder", "B", (.int (0 : Int32)))]]) (.cons₂ _ (.cons _ (.cons₂ _ (.cons _ .slnil)))) ?_
    refine go_astore #[.val (.int p1), .val (.int p2), .val (.int p3), .val (.int p4), .val (.int p5), .val r1, .val r2, .val (.int (1 : Int32)), .val (.ref a21), .val (.ref a22), .val (.ref a24), .val (.ref a25), .unset, .unset, .unset, .unset] 149 rfl at_147 rfl rfl rfl ?_
    refine go_iload 151 rfl at_149 rfl ?_
    refine go_iloadN 152 rfl at_151 rfl ?_
    refine go_icmp 161 155 rfl (by decide) rfl at_152 rfl (fun (hc152_17 : p5.toInt ≠ p2.toInt) => ?_) (fun (hc152_17 : ¬ (p5.toInt ≠ p2.toInt)) => ?_)
    · refine go_iload 163 rfl at_161 rfl ?_
      refine go_istore #[.val (.int p1), .val (.int p2), .val (.int p3), .val (.int p4), .val (.int p5), .val r1, .val r2, .val (.int (1 : Int32)), .val (.ref a21), .val (.ref a22), .val (.ref a24), .val (.ref a25), .val (.int p5), .unset, .unset, .unset] 165 rfl at_163 rfl rfl ?_
      refine go_new 168 rfl at_165 (wd hw 39 rfl) (wd hw 40 rfl) (wd hw 41 rfl) (by decide) (by decide) [("com/example/layered_locks/layeredlocks/AloneLocks", "paths", "[Ljava/lang/String;", .null), ("com/example/layered_locks/layeredlocks/AloneLocks", "lengths", "[I", .null), ("com/example/layered_locks/layeredlocks/AloneLocks", "modes", "[Lcom/example/layered_locks/layeredlocks/LockMode;", .null), ("com/example/layered_locks/layeredlocks/AloneLocks", "owner", "[Ljava/lang/Object;", .null), ("com/example/layered_locks/layeredlocks/AloneLocks", "latch", "Lcom/example/layered_locks/layeredlocks/Latch;", .null), ("com/example/layered_locks/layeredlocks/AloneLocks", "size", "I", (.int (0 : Int32)))] ⟨⟨Or.inr (wd hw 49 rfl), _, rfl, rfl⟩, ⟨⟨Or.inr (wd hw 52 rfl), _, rfl, rfl⟩, ⟨⟨Or.inr (wd hw 56 rfl), _, rfl, rfl⟩, ⟨⟨Or.inr (wd hw 64 rfl), _, rfl, rfl⟩, ⟨⟨Or.inr (wd hw 78 rfl), _, rfl, rfl⟩, ⟨⟨Or.inl (wd hw 85 rfl), _, rfl, rfl⟩, trivial⟩⟩⟩⟩⟩⟩ (by decide) (fun a27 => ?_)
      show Go B0 Z a0 h0 _ 7 27 (mem4 a22 a23 a25 a26 a27) 168 #[.val (.int p1), .val (.int p2), .val (.int p3), .val (.int p4), .val (.int p5), .val r1, .val r2, .val (.int (1 : Int32)), .val (.ref a21), .val (.ref a22), .val (.ref a24), .val (.ref a25), .val (.int p5), .unset, .unset, .unset] [(.ref a27)]
      refine go_dup 169 rfl at_168 rfl rfl ?_
      refine Go.front 2 (Nat.le_of_ble_eq_true rfl) ?_
      show Go B0 Z a0 h0 _ 7 27 (mem5 a27 a22 a23 a25 a26) 169 #[.val (.int p1), .val (.int p2), .val (.int p3), .val (.int p4), .val (.int p5), .val r1, .val r2, .val (.int (1 : Int32)), .val (.ref a21), .val (.ref a22), .val (.ref a24), .val (.ref a25), .val (.int p5), .unset, .unset, .unset] [(.ref a27), (.ref a27)]
      refine go_callI 172 rfl at_169 rfl (wd hw 42 rfl) (wd hw 43 rfl) (wd hw 41 rfl) (wd hw 44 rfl) (by decide) (Met.frame [ob a22 "java/lang/String" [("java/lang/String", "value", "[B", (.ref a23)), ("java/lang/String", "coder", "B", (.int (0 : Int32)))], ob a25 "java/lang/String" [("java/lang/String", "value", "[B", (.ref a26)), ("java/lang/String", "coder", "B", (.int (0 : Int32)))]] (mt8 Z a0 hw h0 r1 hr1 r2 hr2 a27)) (argsL := []) (rest := [(.ref a27)]) rfl (ret := none) (ps := []) (by decide +kernel) rfl rfl 1 rfl (by decide) (by decide) (by decide) (by decide) ?_
      rintro _ _ ⟨_, ⟨a28, a29, a30, a31, a32, a33, rfl, rfl⟩, rfl⟩
      show Go B0 Z a0 h0 _ 13 142 (mem23 a28 a29 a30 a27 a31 a32 a33 a22 a23 a25 a26) 172 #[.val (.int p1), .val (.int p2), .val (.int p3), .val (.int p4), .val (.int p5), .val r1, .val r2, .val (.int (1 : Int32)), .val (.ref a21), .val (.ref a22), .val (.ref a24), .val (.ref a25), .val (.int p5), .unset, .unset, .unset] [(.ref a27)]
      refine Go.sub (ds' := (mem24 a27 a31 a32 a33 a30 a29 a22 a23 a25 a26)) (.cons _ (.cons _ (.cons _ (.cons₂ _ (.cons₂ _ (.cons₂ _ (.cons₂ _ (.cons₂ _ (.cons₂ _ .slnil))))))))) ?_
      refine go_astore #[.val (.int p1), .val (.int p2), .val (.int p3), .val (.int p4), .val (.int p5), .val r1, .val r2, .val (.int (1 : Int32)), .val (.ref a21), .val (.ref a22), .val (.ref a24), .val (.ref a25), .val (.int p5), .val (.ref a27), .unset, .unset] 174 rfl at_172 rfl rfl rfl ?_
      refine go_iconst (0 : Int32) 175 rfl at_174 rfl ?_
      refine go_istore #[.val (.int p1), .val (.int p2), .val (.int p3), .val (.int p4), .val (.int p5), .val r1, .val r2, .val (.int (1 : Int32)), .val (.ref a21), .val (.ref a22), .val (.ref a24), .val (.ref a25), .val (.int p5), .val (.ref a27), .val (.int (0 : Int32)), .unset] 177 rfl at_175 rfl rfl ?_
      refine go_iload 179 rfl at_177 rfl ?_
      refine go_if 196 182 rfl (by decide) rfl at_179 rfl (fun (hc179 : (1 : Int) = 0) => absurd hc179 (by decide)) (fun (hc179 : ¬ ((1 : Int) = 0)) => ?_)
      refine go_aload 184 rfl at_182 rfl rfl ?_
      refine go_aload 186 rfl at_184 rfl rfl ?_
      refine go_iload 188 rfl at_186 rfl ?_
      refine go_aload 190 rfl at_188 rfl hr2.isR ?_
      refine Go.front 5 (Nat.le_of_ble_eq_true rfl) ?_
      refine Go.front 4 (Nat.le_of_ble_eq_true rfl) ?_
      refine Go.front 4 (Nat.le_of_ble_eq_true rfl) ?_
      refine Go.front 4 (Nat.le_of_ble_eq_true rfl) ?_
      refine Go.front 4 (Nat.le_of_ble_eq_true rfl) ?_
      show Go B0 Z a0 h0 _ 13 142 (mem24 a27 a31 a32 a33 a30 a29 a25 a26 a22 a23) 190 #[.val (.int p1), .val (.int p2), .val (.int p3), .val (.int p4), .val (.int p5), .val r1, .val r2, .val (.int (1 : Int32)), .val (.ref a21), .val (.ref a22), .val (.ref a24), .val (.ref a25), .val (.int p5), .val (.ref a27), .val (.int (0 : Int32)), .unset] [r2, (.int p5), (.ref a25), (.ref a27)]
      refine go_callV 193 rfl at_190 (wd hw 79 rfl) (wd hw 80 rfl) (wd hw 82 rfl) (wd hw 81 rfl) (wd hw 41 rfl) (wd hw 83 rfl) (by decide) (Mo.exa (i := 0) rfl) (Met.frame [ob a22 "java/lang/String" [("java/lang/String", "value", "[B", (.ref a23)), ("java/lang/String", "coder", "B", (.int (0 : Int32)))]] (mt19 Z a0 hw h0 r1 hr1 r2 hr2 a27 a31 a32 a33 a30 a29 a25 a26 p5)) (argsL := [(.ref a25), (.int p5), r2]) (rest := []) rfl (ps := [(.object "java/lang/String"), .int, (.object "com/example/layered_locks/layeredlocks/LockMode")]) (by decide +kernel) rfl rfl 0 rfl (by decide) (by decide) (by decide) (by decide) ?_
      rintro _ _ ⟨_, ⟨rfl, rfl⟩, rfl⟩
      show Go B0 Z a0 h0 _ 13 142 (mem30 a27 a31 a32 a33 a30 a29 a25 p5 r2 a26 a22 a23) 193 #[.val (.int p1), .val (.int p2), .val (.int p3), .val (.int p4), .val (.int p5), .val r1, .val r2, .val (.int (1 : Int32)), .val (.ref a21), .val (.ref a22), .val (.ref a24), .val (.ref a25), .val (.int p5), .val (.ref a27), .val (.int (0 : Int32)), .unset] []
      refine go_iconst (1 : Int32) 194 rfl at_193 rfl ?_
      refine go_istore #[.val (.int p1), .val (.int p2), .val (.int p3), .val (.int p4), .val (.int p5), .val r1, .val r2, .val (.int (1 : Int32)), .val (.ref a21), .val (.ref a22), .val (.ref a24), .val (.ref a25), .val (.int p5), .val (.ref a27), .val (.int (1 : Int32)), .unset] 196 rfl at_194 rfl rfl ?_
      refine go_aload 198 rfl at_196 rfl rfl ?_
      refine go_aload 200 rfl at_198 rfl rfl ?_
      refine go_iloadN 201 rfl at_200 rfl ?_
      refine go_aload 203 rfl at_201 rfl hr1.isR ?_
      refine go_callV 206 rfl at_203 (wd hw 79 rfl) (wd hw 80 rfl) (wd hw 82 rfl) (wd hw 81 rfl) (wd hw 41 rfl) (wd hw 83 rfl) (by decide) (Mo.exa (i := 0) rfl) (mt20 Z a0 hw h0 r1 hr1 r2 hr2 a27 a31 a32 a33 a30 a29 a25 p5 a26 a22 a23 p2) (argsL := [(.ref a22), (.int p2), r1]) (rest := []) rfl (ps := [(.object "java/lang/String"), .int, (.object "com/example/layered_locks/layeredlocks/LockMode")]) (by decide +kernel) rfl rfl 0 rfl (by decide) (by decide) (by decide) (by decide) ?_
      rintro _ _ ⟨rfl, rfl⟩
      show Go B0 Z a0 h0 _ 13 142 (mem34 a27 a31 a32 a33 a30 a29 a25 a22 p5 p2 r2 r1 a26 a23) 206 #[.val (.int p1), .val (.int p2), .val (.int p3), .val (.int p4), .val (.int p5), .val r1, .val r2, .val (.int (1 : Int32)), .val (.ref a21), .val (.ref a22), .val (.ref a24), .val (.ref a25), .val (.int p5), .val (.ref a27), .val (.int (1 : Int32)), .unset] []
      refine go_aload 208 rfl at_206 rfl rfl ?_
      refine go_callV 211 rfl at_208 (wd hw 87 rfl) (wd hw 88 rfl) (wd hw 90 rfl) (wd hw 89 rfl) (wd hw 41 rfl) (wd hw 91 rfl) (by decide) (Mo.exa (i := 0) rfl) (mt21 Z a0 hw h0 r1 hr1 r2 hr2 a27 a31 a32 a33 a30 a29 a25 a22 p5 p2 a26 a23) (argsL := []) (rest := []) rfl (ps := []) (by decide +kernel) rfl rfl 0 rfl (by decide) (by decide) (by decide) (by decide) ?_
      rintro _ _ ⟨rfl, rfl⟩
      show Go B0 Z a0 h0 _ 13 142 (mem34 a27 a31 a32 a33 a30 a29 a25 a22 p5 p2 r2 r1 a26 a23) 211 #[.val (.int p1), .val (.int p2), .val (.int p3), .val (.int p4), .val (.int p5), .val r1, .val r2, .val (.int (1 : Int32)), .val (.ref a21), .val (.ref a22), .val (.ref a24), .val (.ref a25), .val (.int p5), .val (.ref a27), .val (.int (1 : Int32)), .unset] [(.int (2 : Int32))]
      refine go_iload 213 rfl at_211 rfl ?_
      refine go_iconst (1 : Int32) 214 rfl at_213 rfl ?_
      refine go_iadd 215 rfl at_214 rfl ?_
      show Go B0 Z a0 h0 _ 13 142 (mem34 a27 a31 a32 a33 a30 a29 a25 a22 p5 p2 r2 r1 a26 a23) 215 #[.val (.int p1), .val (.int p2), .val (.int p3), .val (.int p4), .val (.int p5), .val r1, .val r2, .val (.int (1 : Int32)), .val (.ref a21), .val (.ref a22), .val (.ref a24), .val (.ref a25), .val (.int p5), .val (.ref a27), .val (.int (1 : Int32)), .unset] [(.int (2 : Int32)), (.int (2 : Int32))]
      refine go_icmp 269 218 rfl (by decide) rfl at_215 rfl (fun (hc215 : (2 : Int) ≠ (2 : Int)) => absurd hc215 (by decide)) (fun (hc215 : ¬ ((2 : Int) ≠ (2 : Int))) => ?_)
      refine go_aload 220 rfl at_218 rfl rfl ?_
      refine go_iload 222 rfl at_220 rfl ?_
      refine go_callV 225 rfl at_222 (wd hw 92 rfl) (wd hw 93 rfl) (wd hw 95 rfl) (wd hw 94 rfl) (wd hw 41 rfl) (wd hw 96 rfl) (by decide) (Mo.exa (i := 0) rfl) (mt22 Z a0 hw h0 r1 hr1 r2 hr2 a27 a31 a32 a33 a30 a29 a25 a22 p5 p2 a26 a23) (argsL := [(.int (1 : Int32))]) (rest := []) rfl (ps := [.int]) (by decide +kernel) rfl rfl 0 rfl (by decide) (by decide) (by decide) (by decide) ?_
      rintro _ _ ⟨rfl, rfl⟩
      show Go B0 Z a0 h0 _ 13 142 (mem34 a27 a31 a32 a33 a30 a29 a25 a22 p5 p2 r2 r1 a26 a23) 225 #[.val (.int p1), .val (.int p2), .val (.int p3), .val (.int p4), .val (.int p5), .val r1, .val r2, .val (.int (1 : Int32)), .val (.ref a21), .val (.ref a22), .val (.ref a24), .val (.ref a25), .val (.int p5), .val (.ref a27), .val (.int (1 : Int32)), .unset] [(.ref a22)]
      refine go_aload 227 rfl at_225 rfl rfl ?_
      refine go_acmp 269 230 rfl (by decide) rfl at_227 rfl rfl rfl (fun (hc227 : (Value.ref a22) ≠ (.ref a22)) => absurd hc227 (by simp)) (fun (hc227 : ¬ ((Value.ref a22) ≠ (.ref a22))) => ?_)
      refine go_aload 232 rfl at_230 rfl rfl ?_
      refine go_iload 234 rfl at_232 rfl ?_
      refine go_callV 237 rfl at_234 (wd hw 97 rfl) (wd hw 98 rfl) (wd hw 100 rfl) (wd hw 99 rfl) (wd hw 41 rfl) (wd hw 101 rfl) (by decide) (Mo.exa (i := 0) rfl) (mt23 Z a0 hw h0 r1 hr1 r2 hr2 a27 a31 a32 a33 a30 a29 a25 a22 p5 p2 a26 a23) (argsL := [(.int (1 : Int32))]) (rest := []) rfl (ps := [.int]) (by decide +kernel) rfl rfl 0 rfl (by decide) (by decide) (by decide) (by decide) ?_
      rintro _ _ ⟨rfl, rfl⟩
      show Go B0 Z a0 h0 _ 13 142 (mem34 a27 a31 a32 a33 a30 a29 a25 a22 p5 p2 r2 r1 a26 a23) 237 #[.val (.int p1), .val (.int p2), .val (.int p3), .val (.int p4), .val (.int p5), .val r1, .val r2, .val (.int (1 : Int32)), .val (.ref a21), .val (.ref a22), .val (.ref a24), .val (.ref a25), .val (.int p5), .val (.ref a27), .val (.int (1 : Int32)), .unset] [(.int p2)]
      refine go_iloadN 238 rfl at_237 rfl ?_
      refine go_icmp 269 241 rfl (by decide) rfl at_238 rfl (fun (hc238 : p2.toInt ≠ p2.toInt) => absurd hc238 (by simp)) (fun (hc238 : ¬ (p2.toInt ≠ p2.toInt)) => ?_)
      refine go_aload 243 rfl at_241 rfl rfl ?_
      refine go_iload 245 rfl at_243 rfl ?_
      refine go_callV 248 rfl at_245 (wd hw 102 rfl) (wd hw 103 rfl) (wd hw 105 rfl) (wd hw 104 rfl) (wd hw 41 rfl) (wd hw 106 rfl) (by decide) (Mo.exa (i := 0) rfl) (mt24 Z a0 hw h0 r1 hr1 r2 hr2 a27 a31 a32 a33 a30 a29 a25 a22 p5 p2 a26 a23) (argsL := [(.int (1 : Int32))]) (rest := []) rfl (ps := [.int]) (by decide +kernel) rfl rfl 0 rfl (by decide) (by decide) (by decide) (by decide) ?_
      rintro _ _ ⟨rfl, rfl⟩
      show Go B0 Z a0 h0 _ 13 142 (mem34 a27 a31 a32 a33 a30 a29 a25 a22 p5 p2 r2 r1 a26 a23) 248 #[.val (.int p1), .val (.int p2), .val (.int p3), .val (.int p4), .val (.int p5), .val r1, .val r2, .val (.int (1 : Int32)), .val (.ref a21), .val (.ref a22), .val (.ref a24), .val (.ref a25), .val (.int p5), .val (.ref a27), .val (.int (1 : Int32)), .unset] [r1]
      refine go_aload 250 rfl at_248 rfl hr1.isR ?_
      refine go_acmp 269 253 rfl (by decide) rfl at_250 rfl hr1.isR hr1.isR (fun (hc250 : r1 ≠ r1) => absurd hc250 (by simp)) (fun (hc250 : ¬ (r1 ≠ r1)) => ?_)
      refine go_aload 255 rfl at_253 rfl rfl ?_
      refine go_iload 257 rfl at_255 rfl ?_
      refine go_iconst (1 : Int32) 258 rfl at_257 rfl ?_
      refine go_iadd 259 rfl at_258 rfl ?_
      show Go B0 Z a0 h0 _ 13 142 (mem34 a27 a31 a32 a33 a30 a29 a25 a22 p5 p2 r2 r1 a26 a23) 259 #[.val (.int p1), .val (.int p2), .val (.int p3), .val (.int p4), .val (.int p5), .val r1, .val r2, .val (.int (1 : Int32)), .val (.ref a21), .val (.ref a22), .val (.ref a24), .val (.ref a25), .val (.int p5), .val (.ref a27), .val (.int (1 : Int32)), .unset] [(.int (2 : Int32)), (.ref a27)]
      refine go_callV 262 rfl at_259 (wd hw 92 rfl) (wd hw 93 rfl) (wd hw 95 rfl) (wd hw 94 rfl) (wd hw 41 rfl) (wd hw 96 rfl) (by decide) (Mo.exa (i := 0) rfl) (mt25 Z a0 hw h0 r1 hr1 r2 hr2 a27 a31 a32 a33 a30 a29 a25 a22 p5 p2 a26 a23) (argsL := [(.int (2 : Int32))]) (rest := []) rfl (ps := [.int]) (by decide +kernel) rfl rfl 0 rfl (by decide) (by decide) (by decide) (by decide) ?_
      rintro _ _ ⟨rfl, rfl⟩
      show Go B0 Z a0 h0 _ 13 142 (mem34 a27 a31 a32 a33 a30 a29 a25 a22 p5 p2 r2 r1 a26 a23) 262 #[.val (.int p1), .val (.int p2), .val (.int p3), .val (.int p4), .val (.int p5), .val r1, .val r2, .val (.int (1 : Int32)), .val (.ref a21), .val (.ref a22), .val (.ref a24), .val (.ref a25), .val (.int p5), .val (.ref a27), .val (.int (1 : Int32)), .unset] [.null]
      refine go_ifnonnullN 265 rfl at_262 rfl ?_
      refine go_iconst (1 : Int32) 266 rfl at_265 rfl ?_
      refine go_goto 270 (by decide) rfl at_266 ?_
      refine go_istore #[.val (.int p1), .val (.int p2), .val (.int p3), .val (.int p4), .val (.int p5), .val r1, .val r2, .val (.int (1 : Int32)), .val (.ref a21), .val (.ref a22), .val (.ref a24), .val (.ref a25), .val (.int p5), .val (.ref a27), .val (.int (1 : Int32)), .val (.int (1 : Int32))] 272 rfl at_270 rfl rfl ?_
      refine go_iload 274 rfl at_272 rfl ?_
      refine go_if 322 277 rfl (by decide) rfl at_274 rfl (fun (hc274 : (1 : Int) = 0) => absurd hc274 (by decide)) (fun (hc274 : ¬ ((1 : Int) = 0)) => ?_)
      refine go_iload 279 rfl at_277 rfl ?_
      refine go_if 319 282 rfl (by decide) rfl at_279 rfl (fun (hc279 : (1 : Int) = 0) => absurd hc279 (by decide)) (fun (hc279 : ¬ ((1 : Int) = 0)) => ?_)
      refine go_aload 284 rfl at_282 rfl rfl ?_
      refine go_iconst (0 : Int32) 285 rfl at_284 rfl ?_
      refine go_callV 288 rfl at_285 (wd hw 92 rfl) (wd hw 93 rfl) (wd hw 95 rfl) (wd hw 94 rfl) (wd hw 41 rfl) (wd hw 96 rfl) (by decide) (Mo.exa (i := 0) rfl) (mt26 Z a0 hw h0 r1 hr1 r2 hr2 a27 a31 a32 a33 a30 a29 a25 a22 p5 p2 a26 a23) (argsL := [(.int (0 : Int32))]) (rest := []) rfl (ps := [.int]) (by decide +kernel) rfl rfl 0 rfl (by decide) (by decide) (by decide) (by decide) ?_
      rintro _ _ ⟨rfl, rfl⟩
      show Go B0 Z a0 h0 _ 13 142 (mem34 a27 a31 a32 a33 a30 a29 a25 a22 p5 p2 r2 r1 a26 a23) 288 #[.val (.int p1), .val (.int p2), .val (.int p3), .val (.int p4), .val (.int p5), .val r1, .val r2, .val (.int (1 : Int32)), .val (.ref a21), .val (.ref a22), .val (.ref a24), .val (.ref a25), .val (.int p5), .val (.ref a27), .val (.int (1 : Int32)), .val (.int (1 : Int32))] [(.ref a25)]
      refine go_aload 290 rfl at_288 rfl rfl ?_
      refine go_acmp 319 293 rfl (by decide) rfl at_290 rfl rfl rfl (fun (hc290 : (Value.ref a25) ≠ (.ref a25)) => absurd hc290 (by simp)) (fun (hc290 : ¬ ((Value.ref a25) ≠ (.ref a25))) => ?_)
      refine go_aload 295 rfl at_293 rfl rfl ?_
      refine go_iconst (0 : Int32) 296 rfl at_295 rfl ?_
      refine go_callV 299 rfl at_296 (wd hw 97 rfl) (wd hw 98 rfl) (wd hw 100 rfl) (wd hw 99 rfl) (wd hw 41 rfl) (wd hw 101 rfl) (by decide) (Mo.exa (i := 0) rfl) (mt27 Z a0 hw h0 r1 hr1 r2 hr2 a27 a31 a32 a33 a30 a29 a25 a22 p5 p2 a26 a23) (argsL := [(.int (0 : Int32))]) (rest := []) rfl (ps := [.int]) (by decide +kernel) rfl rfl 0 rfl (by decide) (by decide) (by decide) (by decide) ?_
      rintro _ _ ⟨rfl, rfl⟩
      show Go B0 Z a0 h0 _ 13 142 (mem34 a27 a31 a32 a33 a30 a29 a25 a22 p5 p2 r2 r1 a26 a23) 299 #[.val (.int p1), .val (.int p2), .val (.int p3), .val (.int p4), .val (.int p5), .val r1, .val r2, .val (.int (1 : Int32)), .val (.ref a21), .val (.ref a22), .val (.ref a24), .val (.ref a25), .val (.int p5), .val (.ref a27), .val (.int (1 : Int32)), .val (.int (1 : Int32))] [(.int p5)]
      refine go_iload 301 rfl at_299 rfl ?_
      refine go_icmp 319 304 rfl (by decide) rfl at_301 rfl (fun (hc301 : p5.toInt ≠ p5.toInt) => absurd hc301 (by simp)) (fun (hc301 : ¬ (p5.toInt ≠ p5.toInt)) => ?_)
      refine go_aload 306 rfl at_304 rfl rfl ?_
      refine go_iconst (0 : Int32) 307 rfl at_306 rfl ?_
      refine go_callV 310 rfl at_307 (wd hw 102 rfl) (wd hw 103 rfl) (wd hw 105 rfl) (wd hw 104 rfl) (wd hw 41 rfl) (wd hw 106 rfl) (by decide) (Mo.exa (i := 0) rfl) (mt28 Z a0 hw h0 r1 hr1 r2 hr2 a27 a31 a32 a33 a30 a29 a25 a22 p5 p2 a26 a23) (argsL := [(.int (0 : Int32))]) (rest := []) rfl (ps := [.int]) (by decide +kernel) rfl rfl 0 rfl (by decide) (by decide) (by decide) (by decide) ?_
      rintro _ _ ⟨rfl, rfl⟩
      show Go B0 Z a0 h0 _ 13 142 (mem34 a27 a31 a32 a33 a30 a29 a25 a22 p5 p2 r2 r1 a26 a23) 310 #[.val (.int p1), .val (.int p2), .val (.int p3), .val (.int p4), .val (.int p5), .val r1, .val r2, .val (.int (1 : Int32)), .val (.ref a21), .val (.ref a22), .val (.ref a24), .val (.ref a25), .val (.int p5), .val (.ref a27), .val (.int (1 : Int32)), .val (.int (1 : Int32))] [r2]
      refine go_aload 312 rfl at_310 rfl hr2.isR ?_
      refine go_acmp 319 315 rfl (by decide) rfl at_312 rfl hr2.isR hr2.isR (fun (hc312 : r2 ≠ r2) => absurd hc312 (by simp)) (fun (hc312 : ¬ (r2 ≠ r2)) => ?_)
      refine go_iconst (1 : Int32) 316 rfl at_315 rfl ?_
      refine go_goto 320 (by decide) rfl at_316 ?_
      refine go_istore #[.val (.int p1), .val (.int p2), .val (.int p3), .val (.int p4), .val (.int p5), .val r1, .val r2, .val (.int (1 : Int32)), .val (.ref a21), .val (.ref a22), .val (.ref a24), .val (.ref a25), .val (.int p5), .val (.ref a27), .val (.int (1 : Int32)), .val (.int (1 : Int32))] 322 rfl at_320 rfl rfl ?_
      refine go_iload 324 rfl at_322 rfl ?_
      exact go_ireturn at_324 rfl (Or.inr (Or.inl rfl)) rfl rfl (by decide) (by decide) rfl
    · refine go_iloadN 156 rfl at_155 rfl ?_
      refine go_iconst (1 : Int32) 157 rfl at_156 rfl ?_
      refine go_ixor 158 rfl at_157 rfl ?_
      refine go_goto 163 (by decide) rfl at_158 ?_
      refine go_istore #[.val (.int p1), .val (.int p2), .val (.int p3), .val (.int p4), .val (.int p5), .val r1, .val r2, .val (.int (1 : Int32)), .val (.ref a21), .val (.ref a22), .val (.ref a24), .val (.ref a25), .val (.int (p2 ^^^ (1 : Int32))), .unset, .unset, .unset] 165 rfl at_163 rfl rfl ?_
      refine go_new 168 rfl at_165 (wd hw 39 rfl) (wd hw 40 rfl) (wd hw 41 rfl) (by decide) (by decide) [("com/example/layered_locks/layeredlocks/AloneLocks", "paths", "[Ljava/lang/String;", .null), ("com/example/layered_locks/layeredlocks/AloneLocks", "lengths", "[I", .null), ("com/example/layered_locks/layeredlocks/AloneLocks", "modes", "[Lcom/example/layered_locks/layeredlocks/LockMode;", .null), ("com/example/layered_locks/layeredlocks/AloneLocks", "owner", "[Ljava/lang/Object;", .null), ("com/example/layered_locks/layeredlocks/AloneLocks", "latch", "Lcom/example/layered_locks/layeredlocks/Latch;", .null), ("com/example/layered_locks/layeredlocks/AloneLocks", "size", "I", (.int (0 : Int32)))] ⟨⟨Or.inr (wd hw 49 rfl), _, rfl, rfl⟩, ⟨⟨Or.inr (wd hw 52 rfl), _, rfl, rfl⟩, ⟨⟨Or.inr (wd hw 56 rfl), _, rfl, rfl⟩, ⟨⟨Or.inr (wd hw 64 rfl), _, rfl, rfl⟩, ⟨⟨Or.inr (wd hw 78 rfl), _, rfl, rfl⟩, ⟨⟨Or.inl (wd hw 85 rfl), _, rfl, rfl⟩, trivial⟩⟩⟩⟩⟩⟩ (by decide) (fun a34 => ?_)
      show Go B0 Z a0 h0 _ 7 27 (mem4 a22 a23 a25 a26 a34) 168 #[.val (.int p1), .val (.int p2), .val (.int p3), .val (.int p4), .val (.int p5), .val r1, .val r2, .val (.int (1 : Int32)), .val (.ref a21), .val (.ref a22), .val (.ref a24), .val (.ref a25), .val (.int (p2 ^^^ (1 : Int32))), .unset, .unset, .unset] [(.ref a34)]
      refine go_dup 169 rfl at_168 rfl rfl ?_
      refine Go.front 2 (Nat.le_of_ble_eq_true rfl) ?_
      show Go B0 Z a0 h0 _ 7 27 (mem5 a34 a22 a23 a25 a26) 169 #[.val (.int p1), .val (.int p2), .val (.int p3), .val (.int p4), .val (.int p5), .val r1, .val r2, .val (.int (1 : Int32)), .val (.ref a21), .val (.ref a22), .val (.ref a24), .val (.ref a25), .val (.int (p2 ^^^ (1 : Int32))), .unset, .unset, .unset] [(.ref a34), (.ref a34)]
      refine go_callI 172 rfl at_169 rfl (wd hw 42 rfl) (wd hw 43 rfl) (wd hw 41 rfl) (wd hw 44 rfl) (by decide) (Met.frame [ob a22 "java/lang/String" [("java/lang/String", "value", "[B", (.ref a23)), ("java/lang/String", "coder", "B", (.int (0 : Int32)))], ob a25 "java/lang/String" [("java/lang/String", "value", "[B", (.ref a26)), ("java/lang/String", "coder", "B", (.int (0 : Int32)))]] (mt8 Z a0 hw h0 r1 hr1 r2 hr2 a34)) (argsL := []) (rest := [(.ref a34)]) rfl (ret := none) (ps := []) (by decide +kernel) rfl rfl 1 rfl (by decide) (by decide) (by decide) (by decide) ?_
      rintro _ _ ⟨_, ⟨a35, a36, a37, a38, a39, a40, rfl, rfl⟩, rfl⟩
      show Go B0 Z a0 h0 _ 13 142 (mem23 a35 a36 a37 a34 a38 a39 a40 a22 a23 a25 a26) 172 #[.val (.int p1), .val (.int p2), .val (.int p3), .val (.int p4), .val (.int p5), .val r1, .val r2, .val (.int (1 : Int32)), .val (.ref a21), .val (.ref a22), .val (.ref a24), .val (.ref a25), .val (.int (p2 ^^^ (1 : Int32))), .unset, .unset, .unset] [(.ref a34)]
      refine Go.sub (ds' := (mem24 a34 a38 a39 a40 a37 a36 a22 a23 a25 a26)) (.cons _ (.cons _ (.cons _ (.cons₂ _ (.cons₂ _ (.cons₂ _ (.cons₂ _ (.cons₂ _ (.cons₂ _ .slnil))))))))) ?_
      refine go_astore #[.val (.int p1), .val (.int p2), .val (.int p3), .val (.int p4), .val (.int p5), .val r1, .val r2, .val (.int (1 : Int32)), .val (.ref a21), .val (.ref a22), .val (.ref a24), .val (.ref a25), .val (.int (p2 ^^^ (1 : Int32))), .val (.ref a34), .unset, .unset] 174 rfl at_172 rfl rfl rfl ?_
      refine go_iconst (0 : Int32) 175 rfl at_174 rfl ?_
      refine go_istore #[.val (.int p1), .val (.int p2), .val (.int p3), .val (.int p4), .val (.int p5), .val r1, .val r2, .val (.int (1 : Int32)), .val (.ref a21), .val (.ref a22), .val (.ref a24), .val (.ref a25), .val (.int (p2 ^^^ (1 : Int32))), .val (.ref a34), .val (.int (0 : Int32)), .unset] 177 rfl at_175 rfl rfl ?_
      refine go_iload 179 rfl at_177 rfl ?_
      refine go_if 196 182 rfl (by decide) rfl at_179 rfl (fun (hc179 : (1 : Int) = 0) => absurd hc179 (by decide)) (fun (hc179 : ¬ ((1 : Int) = 0)) => ?_)
      refine go_aload 184 rfl at_182 rfl rfl ?_
      refine go_aload 186 rfl at_184 rfl rfl ?_
      refine go_iload 188 rfl at_186 rfl ?_
      refine go_aload 190 rfl at_188 rfl hr2.isR ?_
      refine Go.front 5 (Nat.le_of_ble_eq_true rfl) ?_
      refine Go.front 4 (Nat.le_of_ble_eq_true rfl) ?_
      refine Go.front 4 (Nat.le_of_ble_eq_true rfl) ?_
      refine Go.front 4 (Nat.le_of_ble_eq_true rfl) ?_
      refine Go.front 4 (Nat.le_of_ble_eq_true rfl) ?_
      show Go B0 Z a0 h0 _ 13 142 (mem24 a34 a38 a39 a40 a37 a36 a25 a26 a22 a23) 190 #[.val (.int p1), .val (.int p2), .val (.int p3), .val (.int p4), .val (.int p5), .val r1, .val r2, .val (.int (1 : Int32)), .val (.ref a21), .val (.ref a22), .val (.ref a24), .val (.ref a25), .val (.int (p2 ^^^ (1 : Int32))), .val (.ref a34), .val (.int (0 : Int32)), .unset] [r2, (.int (p2 ^^^ (1 : Int32))), (.ref a25), (.ref a34)]
      refine go_callV 193 rfl at_190 (wd hw 79 rfl) (wd hw 80 rfl) (wd hw 82 rfl) (wd hw 81 rfl) (wd hw 41 rfl) (wd hw 83 rfl) (by decide) (Mo.exa (i := 0) rfl) (Met.frame [ob a22 "java/lang/String" [("java/lang/String", "value", "[B", (.ref a23)), ("java/lang/String", "coder", "B", (.int (0 : Int32)))]] (mt29 Z a0 hw h0 r1 hr1 r2 hr2 a34 a38 a39 a40 a37 a36 a25 a26 p2)) (argsL := [(.ref a25), (.int (p2 ^^^ (1 : Int32))), r2]) (rest := []) rfl (ps := [(.object "java/lang/String"), .int, (.object "com/example/layered_locks/layeredlocks/LockMode")]) (by decide +kernel) rfl rfl 0 rfl (by decide) (by decide) (by decide) (by decide) ?_
      rintro _ _ ⟨_, ⟨rfl, rfl⟩, rfl⟩
      show Go B0 Z a0 h0 _ 13 142 (mem38 a34 a38 a39 a40 a37 a36 a25 p2 r2 a26 a22 a23) 193 #[.val (.int p1), .val (.int p2), .val (.int p3), .val (.int p4), .val (.int p5), .val r1, .val r2, .val (.int (1 : Int32)), .val (.ref a21), .val (.ref a22), .val (.ref a24), .val (.ref a25), .val (.int (p2 ^^^ (1 : Int32))), .val (.ref a34), .val (.int (0 : Int32)), .unset] []
      refine go_iconst (1 : Int32) 194 rfl at_193 rfl ?_
      refine go_istore #[.val (.int p1), .val (.int p2), .val (.int p3), .val (.int p4), .val (.int p5), .val r1, .val r2, .val (.int (1 : Int32)), .val (.ref a21), .val (.ref a22), .val (.ref a24), .val (.ref a25), .val (.int (p2 ^^^ (1 : Int32))), .val (.ref a34), .val (.int (1 : Int32)), .unset] 196 rfl at_194 rfl rfl ?_
      refine go_aload 198 rfl at_196 rfl rfl ?_
      refine go_aload 200 rfl at_198 rfl rfl ?_
      refine go_iloadN 201 rfl at_200 rfl ?_
      refine go_aload 203 rfl at_201 rfl hr1.isR ?_
      refine go_callV 206 rfl at_203 (wd hw 79 rfl) (wd hw 80 rfl) (wd hw 82 rfl) (wd hw 81 rfl) (wd hw 41 rfl) (wd hw 83 rfl) (by decide) (Mo.exa (i := 0) rfl) (mt30 Z a0 hw h0 r1 hr1 r2 hr2 a34 a38 a39 a40 a37 a36 a25 p2 a26 a22 a23) (argsL := [(.ref a22), (.int p2), r1]) (rest := []) rfl (ps := [(.object "java/lang/String"), .int, (.object "com/example/layered_locks/layeredlocks/LockMode")]) (by decide +kernel) rfl rfl 0 rfl (by decide) (by decide) (by decide) (by decide) ?_
      rintro _ _ ⟨rfl, rfl⟩
      show Go B0 Z a0 h0 _ 13 142 (mem42 a34 a38 a39 a40 a37 a36 a25 a22 p2 r2 r1 a26 a23) 206 #[.val (.int p1), .val (.int p2), .val (.int p3), .val (.int p4), .val (.int p5), .val r1, .val r2, .val (.int (1 : Int32)), .val (.ref a21), .val (.ref a22), .val (.ref a24), .val (.ref a25), .val (.int (p2 ^^^ (1 : Int32))), .val (.ref a34), .val (.int (1 : Int32)), .unset] []
      refine go_aload 208 rfl at_206 rfl rfl ?_
      refine go_callV 211 rfl at_208 (wd hw 87 rfl) (wd hw 88 rfl) (wd hw 90 rfl) (wd hw 89 rfl) (wd hw 41 rfl) (wd hw 91 rfl) (by decide) (Mo.exa (i := 0) rfl) (mt31 Z a0 hw h0 r1 hr1 r2 hr2 a34 a38 a39 a40 a37 a36 a25 a22 p2 a26 a23) (argsL := []) (rest := []) rfl (ps := []) (by decide +kernel) rfl rfl 0 rfl (by decide) (by decide) (by decide) (by decide) ?_
      rintro _ _ ⟨rfl, rfl⟩
      show Go B0 Z a0 h0 _ 13 142 (mem42 a34 a38 a39 a40 a37 a36 a25 a22 p2 r2 r1 a26 a23) 211 #[.val (.int p1), .val (.int p2), .val (.int p3), .val (.int p4), .val (.int p5), .val r1, .val r2, .val (.int (1 : Int32)), .val (.ref a21), .val (.ref a22), .val (.ref a24), .val (.ref a25), .val (.int (p2 ^^^ (1 : Int32))), .val (.ref a34), .val (.int (1 : Int32)), .unset] [(.int (2 : Int32))]
      refine go_iload 213 rfl at_211 rfl ?_
      refine go_iconst (1 : Int32) 214 rfl at_213 rfl ?_
      refine go_iadd 215 rfl at_214 rfl ?_
      show Go B0 Z a0 h0 _ 13 142 (mem42 a34 a38 a39 a40 a37 a36 a25 a22 p2 r2 r1 a26 a23) 215 #[.val (.int p1), .val (.int p2), .val (.int p3), .val (.int p4), .val (.int p5), .val r1, .val r2, .val (.int (1 : Int32)), .val (.ref a21), .val (.ref a22), .val (.ref a24), .val (.ref a25), .val (.int (p2 ^^^ (1 : Int32))), .val (.ref a34), .val (.int (1 : Int32)), .unset] [(.int (2 : Int32)), (.int (2 : Int32))]
      refine go_icmp 269 218 rfl (by decide) rfl at_215 rfl (fun (hc215 : (2 : Int) ≠ (2 : Int)) => absurd hc215 (by decide)) (fun (hc215 : ¬ ((2 : Int) ≠ (2 : Int))) => ?_)
      refine go_aload 220 rfl at_218 rfl rfl ?_
      refine go_iload 222 rfl at_220 rfl ?_
      refine go_callV 225 rfl at_222 (wd hw 92 rfl) (wd hw 93 rfl) (wd hw 95 rfl) (wd hw 94 rfl) (wd hw 41 rfl) (wd hw 96 rfl) (by decide) (Mo.exa (i := 0) rfl) (mt32 Z a0 hw h0 r1 hr1 r2 hr2 a34 a38 a39 a40 a37 a36 a25 a22 p2 a26 a23) (argsL := [(.int (1 : Int32))]) (rest := []) rfl (ps := [.int]) (by decide +kernel) rfl rfl 0 rfl (by decide) (by decide) (by decide) (by decide) ?_
      rintro _ _ ⟨rfl, rfl⟩
      show Go B0 Z a0 h0 _ 13 142 (mem42 a34 a38 a39 a40 a37 a36 a25 a22 p2 r2 r1 a26 a23) 225 #[.val (.int p1), .val (.int p2), .val (.int p3), .val (.int p4), .val (.int p5), .val r1, .val r2, .val (.int (1 : Int32)), .val (.ref a21), .val (.ref a22), .val (.ref a24), .val (.ref a25), .val (.int (p2 ^^^ (1 : Int32))), .val (.ref a34), .val (.int (1 : Int32)), .unset] [(.ref a22)]
      refine go_aload 227 rfl at_225 rfl rfl ?_
      refine go_acmp 269 230 rfl (by decide) rfl at_227 rfl rfl rfl (fun (hc227 : (Value.ref a22) ≠ (.ref a22)) => absurd hc227 (by simp)) (fun (hc227 : ¬ ((Value.ref a22) ≠ (.ref a22))) => ?_)
      refine go_aload 232 rfl at_230 rfl rfl ?_
      refine go_iload 234 rfl at_232 rfl ?_
      refine go_callV 237 rfl at_234 (wd hw 97 rfl) (wd hw 98 rfl) (wd hw 100 rfl) (wd hw 99 rfl) (wd hw 41 rfl) (wd hw 101 rfl) (by decide) (Mo.exa (i := 0) rfl) (mt33 Z a0 hw h0 r1 hr1 r2 hr2 a34 a38 a39 a40 a37 a36 a25 a22 p2 a26 a23) (argsL := [(.int (1 : Int32))]) (rest := []) rfl (ps := [.int]) (by decide +kernel) rfl rfl 0 rfl (by decide) (by decide) (by decide) (by decide) ?_
      rintro _ _ ⟨rfl, rfl⟩
      show Go B0 Z a0 h0 _ 13 142 (mem42 a34 a38 a39 a40 a37 a36 a25 a22 p2 r2 r1 a26 a23) 237 #[.val (.int p1), .val (.int p2), .val (.int p3), .val (.int p4), .val (.int p5), .val r1, .val r2, .val (.int (1 : Int32)), .val (.ref a21), .val (.ref a22), .val (.ref a24), .val (.ref a25), .val (.int (p2 ^^^ (1 : Int32))), .val (.ref a34), .val (.int (1 : Int32)), .unset] [(.int p2)]
      refine go_iloadN 238 rfl at_237 rfl ?_
      refine go_icmp 269 241 rfl (by decide) rfl at_238 rfl (fun (hc238 : p2.toInt ≠ p2.toInt) => absurd hc238 (by simp)) (fun (hc238 : ¬ (p2.toInt ≠ p2.toInt)) => ?_)
      refine go_aload 243 rfl at_241 rfl rfl ?_
      refine go_iload 245 rfl at_243 rfl ?_
      refine go_callV 248 rfl at_245 (wd hw 102 rfl) (wd hw 103 rfl) (wd hw 105 rfl) (wd hw 104 rfl) (wd hw 41 rfl) (wd hw 106 rfl) (by decide) (Mo.exa (i := 0) rfl) (mt34 Z a0 hw h0 r1 hr1 r2 hr2 a34 a38 a39 a40 a37 a36 a25 a22 p2 a26 a23) (argsL := [(.int (1 : Int32))]) (rest := []) rfl (ps := [.int]) (by decide +kernel) rfl rfl 0 rfl (by decide) (by decide) (by decide) (by decide) ?_
      rintro _ _ ⟨rfl, rfl⟩
      show Go B0 Z a0 h0 _ 13 142 (mem42 a34 a38 a39 a40 a37 a36 a25 a22 p2 r2 r1 a26 a23) 248 #[.val (.int p1), .val (.int p2), .val (.int p3), .val (.int p4), .val (.int p5), .val r1, .val r2, .val (.int (1 : Int32)), .val (.ref a21), .val (.ref a22), .val (.ref a24), .val (.ref a25), .val (.int (p2 ^^^ (1 : Int32))), .val (.ref a34), .val (.int (1 : Int32)), .unset] [r1]
      refine go_aload 250 rfl at_248 rfl hr1.isR ?_
      refine go_acmp 269 253 rfl (by decide) rfl at_250 rfl hr1.isR hr1.isR (fun (hc250 : r1 ≠ r1) => absurd hc250 (by simp)) (fun (hc250 : ¬ (r1 ≠ r1)) => ?_)
      refine go_aload 255 rfl at_253 rfl rfl ?_
      refine go_iload 257 rfl at_255 rfl ?_
      refine go_iconst (1 : Int32) 258 rfl at_257 rfl ?_
      refine go_iadd 259 rfl at_258 rfl ?_
      show Go B0 Z a0 h0 _ 13 142 (mem42 a34 a38 a39 a40 a37 a36 a25 a22 p2 r2 r1 a26 a23) 259 #[.val (.int p1), .val (.int p2), .val (.int p3), .val (.int p4), .val (.int p5), .val r1, .val r2, .val (.int (1 : Int32)), .val (.ref a21), .val (.ref a22), .val (.ref a24), .val (.ref a25), .val (.int (p2 ^^^ (1 : Int32))), .val (.ref a34), .val (.int (1 : Int32)), .unset] [(.int (2 : Int32)), (.ref a34)]
      refine go_callV 262 rfl at_259 (wd hw 92 rfl) (wd hw 93 rfl) (wd hw 95 rfl) (wd hw 94 rfl) (wd hw 41 rfl) (wd hw 96 rfl) (by decide) (Mo.exa (i := 0) rfl) (mt35 Z a0 hw h0 r1 hr1 r2 hr2 a34 a38 a39 a40 a37 a36 a25 a22 p2 a26 a23) (argsL := [(.int (2 : Int32))]) (rest := []) rfl (ps := [.int]) (by decide +kernel) rfl rfl 0 rfl (by decide) (by decide) (by decide) (by decide) ?_
      rintro _ _ ⟨rfl, rfl⟩
      show Go B0 Z a0 h0 _ 13 142 (mem42 a34 a38 a39 a40 a37 a36 a25 a22 p2 r2 r1 a26 a23) 262 #[.val (.int p1), .val (.int p2), .val (.int p3), .val (.int p4), .val (.int p5), .val r1, .val r2, .val (.int (1 : Int32)), .val (.ref a21), .val (.ref a22), .val (.ref a24), .val (.ref a25), .val (.int (p2 ^^^ (1 : Int32))), .val (.ref a34), .val (.int (1 : Int32)), .unset] [.null]
      refine go_ifnonnullN 265 rfl at_262 rfl ?_
      refine go_iconst (1 : Int32) 266 rfl at_265 rfl ?_
      refine go_goto 270 (by decide) rfl at_266 ?_
      refine go_istore #[.val (.int p1), .val (.int p2), .val (.int p3), .val (.int p4), .val (.int p5), .val r1, .val r2, .val (.int (1 : Int32)), .val (.ref a21), .val (.ref a22), .val (.ref a24), .val (.ref a25), .val (.int (p2 ^^^ (1 : Int32))), .val (.ref a34), .val (.int (1 : Int32)), .val (.int (1 : Int32))] 272 rfl at_270 rfl rfl ?_
      refine go_iload 274 rfl at_272 rfl ?_
      refine go_if 322 277 rfl (by decide) rfl at_274 rfl (fun (hc274 : (1 : Int) = 0) => absurd hc274 (by decide)) (fun (hc274 : ¬ ((1 : Int) = 0)) => ?_)
      refine go_iload 279 rfl at_277 rfl ?_
      refine go_if 319 282 rfl (by decide) rfl at_279 rfl (fun (hc279 : (1 : Int) = 0) => absurd hc279 (by decide)) (fun (hc279 : ¬ ((1 : Int) = 0)) => ?_)
      refine go_aload 284 rfl at_282 rfl rfl ?_
      refine go_iconst (0 : Int32) 285 rfl at_284 rfl ?_
      refine go_callV 288 rfl at_285 (wd hw 92 rfl) (wd hw 93 rfl) (wd hw 95 rfl) (wd hw 94 rfl) (wd hw 41 rfl) (wd hw 96 rfl) (by decide) (Mo.exa (i := 0) rfl) (mt36 Z a0 hw h0 r1 hr1 r2 hr2 a34 a38 a39 a40 a37 a36 a25 a22 p2 a26 a23) (argsL := [(.int (0 : Int32))]) (rest := []) rfl (ps := [.int]) (by decide +kernel) rfl rfl 0 rfl (by decide) (by decide) (by decide) (by decide) ?_
      rintro _ _ ⟨rfl, rfl⟩
      show Go B0 Z a0 h0 _ 13 142 (mem42 a34 a38 a39 a40 a37 a36 a25 a22 p2 r2 r1 a26 a23) 288 #[.val (.int p1), .val (.int p2), .val (.int p3), .val (.int p4), .val (.int p5), .val r1, .val r2, .val (.int (1 : Int32)), .val (.ref a21), .val (.ref a22), .val (.ref a24), .val (.ref a25), .val (.int (p2 ^^^ (1 : Int32))), .val (.ref a34), .val (.int (1 : Int32)), .val (.int (1 : Int32))] [(.ref a25)]
      refine go_aload 290 rfl at_288 rfl rfl ?_
      refine go_acmp 319 293 rfl (by decide) rfl at_290 rfl rfl rfl (fun (hc290 : (Value.ref a25) ≠ (.ref a25)) => absurd hc290 (by simp)) (fun (hc290 : ¬ ((Value.ref a25) ≠ (.ref a25))) => ?_)
      refine go_aload 295 rfl at_293 rfl rfl ?_
      refine go_iconst (0 : Int32) 296 rfl at_295 rfl ?_
      refine go_callV 299 rfl at_296 (wd hw 97 rfl) (wd hw 98 rfl) (wd hw 100 rfl) (wd hw 99 rfl) (wd hw 41 rfl) (wd hw 101 rfl) (by decide) (Mo.exa (i := 0) rfl) (mt37 Z a0 hw h0 r1 hr1 r2 hr2 a34 a38 a39 a40 a37 a36 a25 a22 p2 a26 a23) (argsL := [(.int (0 : Int32))]) (rest := []) rfl (ps := [.int]) (by decide +kernel) rfl rfl 0 rfl (by decide) (by decide) (by decide) (by decide) ?_
      rintro _ _ ⟨rfl, rfl⟩
      show Go B0 Z a0 h0 _ 13 142 (mem42 a34 a38 a39 a40 a37 a36 a25 a22 p2 r2 r1 a26 a23) 299 #[.val (.int p1), .val (.int p2), .val (.int p3), .val (.int p4), .val (.int p5), .val r1, .val r2, .val (.int (1 : Int32)), .val (.ref a21), .val (.ref a22), .val (.ref a24), .val (.ref a25), .val (.int (p2 ^^^ (1 : Int32))), .val (.ref a34), .val (.int (1 : Int32)), .val (.int (1 : Int32))] [(.int (p2 ^^^ (1 : Int32)))]
      refine go_iload 301 rfl at_299 rfl ?_
      refine go_icmp 319 304 rfl (by decide) rfl at_301 rfl (fun (hc301 : (p2 ^^^ (1 : Int32)).toInt ≠ (p2 ^^^ (1 : Int32)).toInt) => absurd hc301 (by simp)) (fun (hc301 : ¬ ((p2 ^^^ (1 : Int32)).toInt ≠ (p2 ^^^ (1 : Int32)).toInt)) => ?_)
      refine go_aload 306 rfl at_304 rfl rfl ?_
      refine go_iconst (0 : Int32) 307 rfl at_306 rfl ?_
      refine go_callV 310 rfl at_307 (wd hw 102 rfl) (wd hw 103 rfl) (wd hw 105 rfl) (wd hw 104 rfl) (wd hw 41 rfl) (wd hw 106 rfl) (by decide) (Mo.exa (i := 0) rfl) (mt38 Z a0 hw h0 r1 hr1 r2 hr2 a34 a38 a39 a40 a37 a36 a25 a22 p2 a26 a23) (argsL := [(.int (0 : Int32))]) (rest := []) rfl (ps := [.int]) (by decide +kernel) rfl rfl 0 rfl (by decide) (by decide) (by decide) (by decide) ?_
      rintro _ _ ⟨rfl, rfl⟩
      show Go B0 Z a0 h0 _ 13 142 (mem42 a34 a38 a39 a40 a37 a36 a25 a22 p2 r2 r1 a26 a23) 310 #[.val (.int p1), .val (.int p2), .val (.int p3), .val (.int p4), .val (.int p5), .val r1, .val r2, .val (.int (1 : Int32)), .val (.ref a21), .val (.ref a22), .val (.ref a24), .val (.ref a25), .val (.int (p2 ^^^ (1 : Int32))), .val (.ref a34), .val (.int (1 : Int32)), .val (.int (1 : Int32))] [r2]
      refine go_aload 312 rfl at_310 rfl hr2.isR ?_
      refine go_acmp 319 315 rfl (by decide) rfl at_312 rfl hr2.isR hr2.isR (fun (hc312 : r2 ≠ r2) => absurd hc312 (by simp)) (fun (hc312 : ¬ (r2 ≠ r2)) => ?_)
      refine go_iconst (1 : Int32) 316 rfl at_315 rfl ?_
      refine go_goto 320 (by decide) rfl at_316 ?_
      refine go_istore #[.val (.int p1), .val (.int p2), .val (.int p3), .val (.int p4), .val (.int p5), .val r1, .val r2, .val (.int (1 : Int32)), .val (.ref a21), .val (.ref a22), .val (.ref a24), .val (.ref a25), .val (.int (p2 ^^^ (1 : Int32))), .val (.ref a34), .val (.int (1 : Int32)), .val (.int (1 : Int32))] 322 rfl at_320 rfl rfl ?_
      refine go_iload 324 rfl at_322 rfl ?_
      exact go_ireturn at_324 rfl (Or.inr (Or.inl rfl)) rfl rfl (by decide) (by decide) rfl
set_option maxRecDepth 65536 in
set_option maxHeartbeats 4000000 in
theorem comes_1 {Post : Tables → Env → Array Value → State → Outcome → State → Prop} (hpost : ∀ tb e args s v u, (limb_1_1.after args s (.returned v) u = true ∧ limb_1_2.after args s (.returned v) u = true ∧ True) → FrameEnd s (.returned v) u (Jvm.fieldLocs frame_1_writes args s ++ Jvm.arrayLocs frame_1_arrays args s ++ Jvm.staticLocs frame_1_statics s) 40 384 → Post tb e args s (.returned v) u) :
    ArmFor flags0 classFile x code maxLocals ret World_1 tables_1 room_1 Calls_1 rest_1 Pre_1 Post := by
  intro l hfl _ _ p e ha hc hk s m args below hf hA hF happ hP
  obtain ⟨hcalls, hrest, hpre⟩ := hP
  obtain ⟨-, -, -, hnamed, -, -, -, hat⟩ := (Spec.applies_iff hf).mp happ
  obtain ⟨hg, hn⟩ := and_e (Cond.before_iff.mp (show (Jvm.Cond.and given_1 narrow_1).before args s = true from hpre))
  obtain ⟨g0, r0⟩ := and_e hg
  obtain ⟨g1, r1⟩ := and_e r0
  obtain ⟨g2, r2⟩ := and_e r1
  obtain ⟨g3, r3⟩ := and_e r2
  obtain ⟨g4, r4⟩ := and_e r3
  obtain ⟨w0, w1, w2, w3, w4, rfl⟩ : ∃ w0 w1 w2 w3 w4 : Value, args = #[w0, w1, w2, w3, w4] := by
    have hs : args.size = 5 := by simpa [Cond.value, given_1] using g0
    obtain ⟨L⟩ := args
    match L, hs with
    | [w0, w1, w2, w3, w4], _ => exact ⟨w0, w1, w2, w3, w4, rfl⟩
  have hw := fun d (hd : d ∈ tables_1) => atoms_spec (ws := Jvm.Cond.code x code maxLocals ret :: tables_1) hat d (List.mem_cons_of_mem _ hd)
  have hfit : Fit s := fun {y c} hc i hi => by
    obtain ⟨ha, rfl⟩ := Array.getElem?_eq_some_iff.mp hc
    have q := List.all_eq_true.mp ((Array.all_eq_true_iff_forall_mem.mp hF) _ (Array.getElem_mem ha)) i (List.mem_range.mpr hi)
    simpa [Array.getElem?_eq_getElem hi] using q
  obtain ⟨i0, e0⟩ := is_v g1
  obtain rfl : w0 = (.int i0) := Option.some.inj e0
  obtain ⟨i1, e1⟩ := is_v g2
  obtain rfl : w1 = (.int i1) := Option.some.inj e1
  obtain ⟨i2, e2⟩ := is_v g3
  obtain rfl : w2 = (.int i2) := Option.some.inj e2
  obtain ⟨i3, e3⟩ := is_v g4
  obtain rfl : w3 = (.int i3) := Option.some.inj e3
  obtain ⟨i4, e4⟩ := is_v r4
  obtain rfl : w4 = (.int i4) := Option.some.inj e4
  obtain ⟨hsets, hown0⟩ := atoms_of _ (rest_1_c_eq ▸ (show rest_1_c.before _ s = true from hrest))
  have sn3 := not_v (Cond.before_iff.mp (hsets _ (List.mem_of_getElem? (i := 2) rfl)))
  obtain ⟨zc, ezc⟩ := is_v (Cond.before_iff.mp (hsets _ (List.mem_of_getElem? (i := 1) rfl)))
  have SC : Sta s s.heap "java/lang/String" "COMPACT_STRINGS" "Z" (.int zc) := Sta.start ezc (Or.inl (hsets _ (List.mem_of_getElem? (i := 0) rfl)))
  have hzc : ¬ (zc = (0 : Int32)) := gotF (Cond.eq_ints ezc (Term.int_eval (0))) sn3
  obtain ⟨n0, t0⟩ := and_e hn
  obtain ⟨n1, t1⟩ := and_e t0
  obtain ⟨n2, t2⟩ := and_e t1
  obtain ⟨n3, t3⟩ := and_e t2
  have n4 := t3
  obtain ⟨mS, evS⟩ := exa_v n0
  have SS := Sta.start evS (Or.inr ⟨(wd hw 5 rfl), (wd hw 6 rfl)⟩)
  have ES := Exa.start evS n0
  obtain ⟨mIS, evIS⟩ := exa_v n1
  have SIS := Sta.start evIS (Or.inr ⟨(wd hw 5 rfl), (wd hw 8 rfl)⟩)
  have EIS := Exa.start evIS n1
  obtain ⟨mX, evX⟩ := exa_v n2
  have SX := Sta.start evX (Or.inr ⟨(wd hw 5 rfl), (wd hw 108 rfl)⟩)
  have EX := Exa.start evX n2
  obtain ⟨mSIX, evSIX⟩ := exa_v n3
  have SSIX := Sta.start evSIX (Or.inr ⟨(wd hw 5 rfl), (wd hw 110 rfl)⟩)
  have ESIX := Exa.start evSIX n3
  obtain ⟨mIX, evIX⟩ := exa_v n4
  have SIX := Sta.start evIX (Or.inr ⟨(wd hw 5 rfl), (wd hw 112 rfl)⟩)
  have EIX := Exa.start evIX n4
  obtain ⟨n, o, q1, q2, q3, v, L, rfl, ⟨N, ds', M', -, rfl⟩, hq⟩ := law_met s _ hw s.heap i0 i1 i2 i3 i4 mIS SIS EIS mIX SIX EIX mS SS ES mSIX SSIX ESIX mX SX EX zc SC hzc l tables_1 s.heap (Mo.start s _ s.heap) p e ha hc hk s m _ below hf ((Spec.applies_iff_loose hf).mp happ).1 ⟨rfl, State.Warmed39.refl s, rfl⟩ trivial
  refine ⟨n, _, q1, q2, q3, hpost _ _ _ _ _ _ ⟨Cond.after_iff.mpr rfl, Cond.after_iff.mpr (eq_i res_at (Term.int_eval (1)) rfl), trivial⟩ ⟨hq.1, hq.2.1, (hq.2.2.sift fun y hy => Or.inr (N y hy)).mono (by decide) (by decide)⟩⟩
theorem main_1_1 : Claimed_1_1 := comes_1 fun _ _ _ _ _ _ h hF => ⟨h.1, hF⟩
theorem main_1_2 : Claimed_1_2 := comes_1 fun _ _ _ _ _ _ h hF => ⟨h.2.1, hF⟩

end Jvm.Pilot.@@N@@
namespace Jvm.Pilot.@@N@@
open Jvm Jvm.ClassFile Sem Op Lib Jvm.Free Jvm.Stand Jvm.Pilot.@@N@@.Jvm.D
/-! MADE BY PROGRAM (witnessworld.py) out of the Statement's table words and the real class files: 27 classes; the members and pool entries that the words name. The judged class is class 1, her method 2. -/
namespace start1
open Jvm.ClassFile
def u (s : String) : CpInfo := .utf8 (stringToUtf16 s)
/-- a pool by its gaps: so many unusable entries, then the entry; so many at the end -/
def gap : Nat → List CpInfo → List CpInfo
  | 0, r => r
  | n + 1, r => .unusable :: gap n r
def poolList (es : List (Nat × CpInfo)) (last : Nat) : List CpInfo := es.foldr (fun e r => gap e.1 (e.2 :: r)) (gap last [])
def pool (es : List (Nat × CpInfo)) (last : Nat) : Array CpInfo := ⟨poolList es last⟩
def fileOf (pool : Array CpInfo) (this : Nat) (attrs : Array Attribute := #[]) (ms : Array MethodInfo := #[]) (fl : Nat := 33) (sup : Nat := 0) (ifs : Array Nat := #[]) (fds : Array FieldInfo := #[]) : ClassFile where
  minorVersion := 0
  majorVersion := 65
  constantPool := pool
  accessFlags := fl
  thisClass := this
  superClass := sup
  interfaces := ifs
  fields := fds
  methods := ms
  attributes := attrs
def plain (name : String) (sup : Option ClassId) : Class where
  name := name
  kind := .ordinary
  loader := none
  accessFlags := 33
  super := sup
  interfaces := #[]
  cf := none
  fields := #[]
  methods := #[]
  instanceTypes := #[]
  staticTypes := #[]
  resolved := #[]
  callSites := []
  init := .initialized
  statics := none
  mirror := none

def pool0 : Array CpInfo := pool [(5, u "<init>"), (0, u "()V"), (1, .class_ 10), (1, u "java/lang/Object")] 113

def k0c0 : Code := { maxStack := 0, maxLocals := 1, code := object_method_1_code, exceptionTable := #[], attributes := #[] }
def k0m0 : Method := { name := "<init>", desc := "()V", sig := { parameters := [], returnType := none }, accessFlags := 1, code := some k0c0 }
/-- java/lang/Object -/
def k0 : Class := { plain "java/lang/Object" none with
  accessFlags := 33
  interfaces := #[]
  cf := some (fileOf pool0 8 #[] #[{ accessFlags := 1, nameIndex := 5, descriptorIndex := 6, attributes := #[] }] 33 0 #[] #[])
  fields := #[]
  methods := #[k0m0]
  instanceTypes := #[]
  staticTypes := #[]
  resolved := Array.replicate 124 none
  statics := none }

def pool1 : Array CpInfo := pool [(2, .class_ 4), (0, .nameAndType 5 6), (0, u "java/lang/Object"), (0, u "<init>"), (0, u "()V"), (0, .fieldref 8 9), (0, .class_ 10), (0, .nameAndType 11 12), (0, u "com/example/layered_locks/layeredlocks/LockMode"), (0, u "IS"), (0, u "Lcom/example/layered_locks/layeredlocks/LockMode;"), (0, .fieldref 8 14), (0, .nameAndType 15 12), (0, u "IX"), (0, .fieldref 8 17), (0, .nameAndType 18 12), (0, u "S"), (0, .fieldref 8 20), (0, .nameAndType 21 12), (0, u "SIX"), (0, .fieldref 8 23), (0, .nameAndType 24 12), (0, u "X"), (0, .methodref 26 27), (0, .class_ 28), (0, .nameAndType 29 30), (0, u "com/example/layered_locks/layeredlocks/AloneLocksAddPinLaw"), (0, u "pick"), (0, u "(I)Lcom/example/layered_locks/layeredlocks/LockMode;"), (0, .class_ 32), (0, u "java/lang/String"), (0, .methodref 31 34), (0, .nameAndType 5 35), (0, u "([C)V"), (0, .class_ 37), (0, u "com/example/layered_locks/layeredlocks/AloneLocks"), (0, .methodref 36 3), (0, .methodref 36 40), (0, .nameAndType 41 42), (0, u "add"), (0, u "(Ljava/lang/String;ILcom/example/layered_locks/layeredlocks/LockMode;)V"), (0, .methodref 36 44), (0, .nameAndType 45 46), (0, u "size"), (0, u "()I"), (0, .methodref 36 48), (0, .nameAndType 49 50), (0, u "path"), (0, u "(I)Ljava/lang/String;"), (0, .methodref 36 52), (0, .nameAndType 53 54), (0, u "length"), (0, u "(I)I"), (0, .methodref 36 56), (0, .nameAndType 57 30), (0, u "mode"), (3, u "law"), (0, u "(IIIII)Z")] 4

def k1m0 : Method := { name := "<init>", desc := "()V", sig := { parameters := [], returnType := none }, accessFlags := 1, code := none }
def k1c1 : Code := { maxStack := 2, maxLocals := 1, code := method_2_code, exceptionTable := #[], attributes := #[] }
def k1m1 : Method := { name := "pick", desc := "(I)Lcom/example/layered_locks/layeredlocks/LockMode;", sig := { parameters := [.int], returnType := some (.object "com/example/layered_locks/layeredlocks/LockMode") }, accessFlags := 10, code := some k1c1 }
def k1c2 : Code := { maxStack := 4, maxLocals := 16, code := code, exceptionTable := #[], attributes := #[] }
def k1m2 : Method := { name := "law", desc := "(IIIII)Z", sig := { parameters := [.int, .int, .int, .int, .int], returnType := some .boolean }, accessFlags := 9, code := some k1c2 }
/-- com/example/layered_locks/layeredlocks/AloneLocksAddPinLaw -/
def k1 : Class := { plain "com/example/layered_locks/layeredlocks/AloneLocksAddPinLaw" (some 0) with
  accessFlags := 49
  interfaces := #[]
  cf := some (fileOf pool1 26 #[] #[{ accessFlags := 1, nameIndex := 5, descriptorIndex := 6, attributes := #[] }, { accessFlags := 10, nameIndex := 29, descriptorIndex := 30, attributes := #[] }, { accessFlags := 9, nameIndex := 61, descriptorIndex := 62, attributes := #[] }] 49 2 #[] #[])
  fields := #[]
  methods := #[k1m0, k1m1, k1m2]
  instanceTypes := #[]
  staticTypes := #[]
  resolved := Array.replicate 67 none
  statics := none }

def pool2 : Array CpInfo := pool [(1, .class_ 2), (0, u "java/lang/constant/Constable"), (0, .class_ 4), (0, u "java/lang/Object")] 6

/-- java/lang/constant/Constable -/
def k2 : Class := { plain "java/lang/constant/Constable" (some 0) with
  accessFlags := 1537
  interfaces := #[]
  cf := some (fileOf pool2 1 #[] #[] 1537 3 #[] #[])
  fields := #[]
  methods := #[]
  instanceTypes := #[]
  staticTypes := #[]
  resolved := Array.replicate 11 none
  statics := none }

def pool3 : Array CpInfo := pool [(1, .class_ 2), (0, u "java/lang/Comparable"), (0, .class_ 4), (0, u "java/lang/Object")] 7

/-- java/lang/Comparable -/
def k3 : Class := { plain "java/lang/Comparable" (some 0) with
  accessFlags := 1537
  interfaces := #[]
  cf := some (fileOf pool3 1 #[] #[] 1537 3 #[] #[])
  fields := #[]
  methods := #[]
  instanceTypes := #[]
  staticTypes := #[]
  resolved := Array.replicate 12 none
  statics := none }

def pool4 : Array CpInfo := pool [(1, .class_ 2), (0, u "java/io/Serializable"), (0, .class_ 4), (0, u "java/lang/Object")] 2

/-- java/io/Serializable -/
def k4 : Class := { plain "java/io/Serializable" (some 0) with
  accessFlags := 1537
  interfaces := #[]
  cf := some (fileOf pool4 1 #[] #[] 1537 3 #[] #[])
  fields := #[]
  methods := #[]
  instanceTypes := #[]
  staticTypes := #[]
  resolved := Array.replicate 7 none
  statics := none }

def pool5 : Array CpInfo := pool [(2, .class_ 4), (1, u "java/lang/Enum"), (0, u "name"), (0, u "Ljava/lang/String;"), (2, u "ordinal"), (0, u "I"), (1, .class_ 14), (1, u "java/lang/Object"), (4, u "hash"), (86, .class_ 108), (1, u "java/lang/Enum$EnumDesc"), (2, .class_ 112), (0, u "java/lang/constant/Constable"), (0, .class_ 114), (0, u "java/lang/Comparable"), (0, .class_ 116), (0, u "java/io/Serializable")] 87

/-- java/lang/Enum -/
def k5 : Class := { plain "java/lang/Enum" (some 0) with
  accessFlags := 1057
  interfaces := #[2, 3, 4]
  cf := some (fileOf pool5 2 #[.nestMembers #[106]] #[] 1057 12 #[111, 113, 115] #[{ accessFlags := 18, nameIndex := 5, descriptorIndex := 6, attributes := #[] }, { accessFlags := 18, nameIndex := 9, descriptorIndex := 10, attributes := #[] }, { accessFlags := 2, nameIndex := 19, descriptorIndex := 10, attributes := #[] }])
  fields := #[{ name := "name", type := (.object "java/lang/String"), accessFlags := 18, slot := 0, constantValue := 0 }, { name := "ordinal", type := .int, accessFlags := 18, slot := 1, constantValue := 0 }, { name := "hash", type := .int, accessFlags := 2, slot := 2, constantValue := 0 }]
  methods := #[]
  instanceTypes := #[(.object "java/lang/String"), .int, .int]
  staticTypes := #[]
  resolved := Array.replicate 204 none
  statics := none }

def pool6 : Array CpInfo := pool [(1, .class_ 2), (0, u "com/example/layered_locks/layeredlocks/LockMode"), (2, u "IS"), (0, u "Lcom/example/layered_locks/layeredlocks/LockMode;"), (2, u "IX"), (2, u "S"), (2, u "SIX"), (2, u "X"), (2, u "$VALUES"), (0, u "[Lcom/example/layered_locks/layeredlocks/LockMode;"), (6, .class_ 31), (1, u "java/lang/Enum"), (8, u "COMPATIBLE"), (0, u "[[Z"), (6, u "SUPREMUM"), (0, u "[[Lcom/example/layered_locks/layeredlocks/LockMode;"), (12, u "Y"), (0, u "Z"), (2, u "N")] 16

/-- com/example/layered_locks/layeredlocks/LockMode -/
def k6 : Class := { plain "com/example/layered_locks/layeredlocks/LockMode" (some 5) with
  accessFlags := 16433
  interfaces := #[]
  cf := some (fileOf pool6 1 #[] #[] 16433 29 #[] #[{ accessFlags := 16409, nameIndex := 5, descriptorIndex := 6, attributes := #[] }, { accessFlags := 16409, nameIndex := 9, descriptorIndex := 6, attributes := #[] }, { accessFlags := 16409, nameIndex := 12, descriptorIndex := 6, attributes := #[] }, { accessFlags := 16409, nameIndex := 15, descriptorIndex := 6, attributes := #[] }, { accessFlags := 16409, nameIndex := 18, descriptorIndex := 6, attributes := #[] }, { accessFlags := 26, nameIndex := 62, descriptorIndex := 63, attributes := #[] }, { accessFlags := 26, nameIndex := 66, descriptorIndex := 63, attributes := #[] }, { accessFlags := 26, nameIndex := 40, descriptorIndex := 41, attributes := #[] }, { accessFlags := 26, nameIndex := 48, descriptorIndex := 49, attributes := #[] }, { accessFlags := 4122, nameIndex := 21, descriptorIndex := 22, attributes := #[] }])
  fields := #[{ name := "IS", type := (.object "com/example/layered_locks/layeredlocks/LockMode"), accessFlags := 16409, slot := 0, constantValue := 0 }, { name := "IX", type := (.object "com/example/layered_locks/layeredlocks/LockMode"), accessFlags := 16409, slot := 1, constantValue := 0 }, { name := "S", type := (.object "com/example/layered_locks/layeredlocks/LockMode"), accessFlags := 16409, slot := 2, constantValue := 0 }, { name := "SIX", type := (.object "com/example/layered_locks/layeredlocks/LockMode"), accessFlags := 16409, slot := 3, constantValue := 0 }, { name := "X", type := (.object "com/example/layered_locks/layeredlocks/LockMode"), accessFlags := 16409, slot := 4, constantValue := 0 }, { name := "Y", type := .boolean, accessFlags := 26, slot := 5, constantValue := 0 }, { name := "N", type := .boolean, accessFlags := 26, slot := 6, constantValue := 0 }, { name := "COMPATIBLE", type := (.array (.array .boolean)), accessFlags := 26, slot := 7, constantValue := 0 }, { name := "SUPREMUM", type := (.array (.array (.object "com/example/layered_locks/layeredlocks/LockMode"))), accessFlags := 26, slot := 8, constantValue := 0 }, { name := "$VALUES", type := (.array (.object "com/example/layered_locks/layeredlocks/LockMode")), accessFlags := 4122, slot := 9, constantValue := 0 }]
  methods := #[]
  instanceTypes := #[(.object "java/lang/String"), .int, .int]
  staticTypes := #[(.object "com/example/layered_locks/layeredlocks/LockMode"), (.object "com/example/layered_locks/layeredlocks/LockMode"), (.object "com/example/layered_locks/layeredlocks/LockMode"), (.object "com/example/layered_locks/layeredlocks/LockMode"), (.object "com/example/layered_locks/layeredlocks/LockMode"), .boolean, .boolean, (.array (.array .boolean)), (.array (.array (.object "com/example/layered_locks/layeredlocks/LockMode"))), (.array (.object "com/example/layered_locks/layeredlocks/LockMode"))]
  resolved := Array.replicate 83 none
  statics := some 0 }

def pool7 : Array CpInfo := pool [(2, .class_ 4), (1, u "java/lang/CharSequence"), (42, .class_ 48), (0, u "java/lang/CharSequence$1CodePointIterator"), (10, .class_ 60), (0, u "java/lang/CharSequence$1CharIterator"), (5, .class_ 67), (0, u "java/lang/Object")] 63

/-- java/lang/CharSequence -/
def k7 : Class := { plain "java/lang/CharSequence" (some 0) with
  accessFlags := 1537
  interfaces := #[]
  cf := some (fileOf pool7 2 #[.nestMembers #[47, 59]] #[] 1537 66 #[] #[])
  fields := #[]
  methods := #[]
  instanceTypes := #[]
  staticTypes := #[]
  resolved := Array.replicate 131 none
  statics := none }

def pool8 : Array CpInfo := pool [(1, .class_ 2), (0, u "java/lang/constant/ConstantDesc"), (0, .class_ 4), (0, u "java/lang/Object")] 32

/-- java/lang/constant/ConstantDesc -/
def k8 : Class := { plain "java/lang/constant/ConstantDesc" (some 0) with
  accessFlags := 1537
  interfaces := #[]
  cf := some (fileOf pool8 1 #[] #[] 1537 3 #[] #[])
  fields := #[]
  methods := #[]
  instanceTypes := #[]
  staticTypes := #[]
  resolved := Array.replicate 37 none
  statics := none }

def pool9 : Array CpInfo := pool [(1, .methodref 2 3), (0, .class_ 4), (0, .nameAndType 5 6), (0, u "java/lang/Object"), (0, u "<init>"), (0, u "()V"), (2, .fieldref 10 11), (0, .class_ 12), (0, .nameAndType 13 14), (0, u "java/lang/String"), (0, u "value"), (0, u "[B"), (0, .fieldref 10 16), (0, .nameAndType 17 18), (0, u "coder"), (0, u "B"), (2, u "hash"), (0, u "I"), (2, u "hashIsZero"), (0, u "Z"), (0, .methodref 10 28), (0, .nameAndType 5 29), (0, u "([CIILjava/lang/Void;)V"), (8, .fieldref 10 39), (0, .nameAndType 40 26), (0, u "COMPACT_STRINGS"), (1, .class_ 44), (1, u "java/lang/StringUTF16"), (0, u "compress"), (1, .methodref 42 48), (0, .nameAndType 49 50), (0, u "coderFromArrayLen"), (0, u "([BI)B"), (126, .methodref 42 178), (0, .nameAndType 45 179), (0, u "([CII)[B"), (395, .class_ 576), (0, u "java/lang/CharSequence"), (22, u "CASE_INSENSITIVE_ORDER"), (0, u "Ljava/util/Comparator;"), (409, u "([C)V"), (90, u "serialPersistentFields"), (0, u "[Ljava/io/ObjectStreamField;"), (0, .class_ 1104), (0, u "java/lang/String$CaseInsensitiveComparator"), (1, .class_ 1107), (0, u "java/io/Serializable"), (0, .class_ 1109), (0, u "java/lang/Comparable"), (0, .class_ 1111), (0, u "java/lang/constant/Constable"), (0, .class_ 1113), (0, u "java/lang/constant/ConstantDesc"), (2, u "serialVersionUID"), (0, u "J"), (3, u "REPL"), (0, u "C"), (2, u "LATIN1"), (1, u "UTF16")] 323

def k9m0 : Method := { name := "<init>", desc := "()V", sig := { parameters := [], returnType := none }, accessFlags := 1, code := none }
def k9c1 : Code := { maxStack := 5, maxLocals := 2, code := jdk_42_method_3_code, exceptionTable := #[], attributes := #[] }
def k9m1 : Method := { name := "<init>", desc := "([C)V", sig := { parameters := [(.array .char)], returnType := none }, accessFlags := 1, code := some k9c1 }
def k9c2 : Code := { maxStack := 4, maxLocals := 6, code := jdk_42_method_149_code, exceptionTable := #[], attributes := #[] }
def k9m2 : Method := { name := "<init>", desc := "([CIILjava/lang/Void;)V", sig := { parameters := [(.array .char), .int, .int, (.object "java/lang/Void")], returnType := none }, accessFlags := 2, code := some k9c2 }
/-- java/lang/String -/
def k9 : Class := { plain "java/lang/String" (some 0) with
  accessFlags := 49
  interfaces := #[4, 3, 7, 2, 8]
  cf := some (fileOf pool9 10 #[.nestMembers #[1103]] #[{ accessFlags := 1, nameIndex := 5, descriptorIndex := 6, attributes := #[] }, { accessFlags := 1, nameIndex := 5, descriptorIndex := 1010, attributes := #[] }, { accessFlags := 2, nameIndex := 5, descriptorIndex := 29, attributes := #[] }] 49 2 #[1106, 1108, 575, 1110, 1112] #[{ accessFlags := 18, nameIndex := 13, descriptorIndex := 14, attributes := #[] }, { accessFlags := 18, nameIndex := 17, descriptorIndex := 18, attributes := #[] }, { accessFlags := 2, nameIndex := 21, descriptorIndex := 22, attributes := #[] }, { accessFlags := 2, nameIndex := 25, descriptorIndex := 26, attributes := #[] }, { accessFlags := 26, nameIndex := 1116, descriptorIndex := 1117, attributes := #[] }, { accessFlags := 24, nameIndex := 40, descriptorIndex := 26, attributes := #[] }, { accessFlags := 26, nameIndex := 1101, descriptorIndex := 1102, attributes := #[] }, { accessFlags := 26, nameIndex := 1121, descriptorIndex := 1122, attributes := #[] }, { accessFlags := 25, nameIndex := 599, descriptorIndex := 600, attributes := #[] }, { accessFlags := 24, nameIndex := 1125, descriptorIndex := 18, attributes := #[] }, { accessFlags := 24, nameIndex := 1127, descriptorIndex := 18, attributes := #[] }])
  fields := #[{ name := "value", type := (.array .byte), accessFlags := 18, slot := 0, constantValue := 0 }, { name := "coder", type := .byte, accessFlags := 18, slot := 1, constantValue := 0 }, { name := "hash", type := .int, accessFlags := 2, slot := 2, constantValue := 0 }, { name := "hashIsZero", type := .boolean, accessFlags := 2, slot := 3, constantValue := 0 }, { name := "serialVersionUID", type := .long, accessFlags := 26, slot := 0, constantValue := 0 }, { name := "COMPACT_STRINGS", type := .boolean, accessFlags := 24, slot := 1, constantValue := 0 }, { name := "serialPersistentFields", type := (.array (.object "java/io/ObjectStreamField")), accessFlags := 26, slot := 2, constantValue := 0 }, { name := "REPL", type := .char, accessFlags := 26, slot := 3, constantValue := 0 }, { name := "CASE_INSENSITIVE_ORDER", type := (.object "java/util/Comparator"), accessFlags := 25, slot := 4, constantValue := 0 }, { name := "LATIN1", type := .byte, accessFlags := 24, slot := 5, constantValue := 0 }, { name := "UTF16", type := .byte, accessFlags := 24, slot := 6, constantValue := 0 }]
  methods := #[k9m0, k9m1, k9m2]
  instanceTypes := #[(.array .byte), .byte, .int, .boolean]
  staticTypes := #[.long, .boolean, (.array (.object "java/io/ObjectStreamField")), .char, (.object "java/util/Comparator"), .byte, .byte]
  resolved := Array.replicate 1451 none
  statics := some 1 }

def pool10 : Array CpInfo := pool [(6, .class_ 8), (1, u "java/lang/Object"), (0, u "<init>"), (0, u "()V"), (1, .class_ 14), (1, u "java/lang/StringUTF16"), (31, u "$assertionsDisabled"), (0, u "Z"), (13, u "HI_BYTE_SHIFT"), (0, u "I"), (2, u "LO_BYTE_SHIFT"), (49, .methodref 12 116), (0, .nameAndType 117 118), (0, u "compress"), (0, u "([CI[BII)I"), (3, u "([CII)[B"), (138, u "coderFromArrayLen"), (0, u "([BI)B"), (106, .class_ 371), (1, u "java/lang/StringUTF16$LinesSpliterator"), (58, u "MAX_LENGTH"), (196, .class_ 628), (0, u "java/lang/StringUTF16$CodePointsSpliterator"), (0, .class_ 630), (0, u "java/lang/StringUTF16$CharsSpliterator")] 4

def k10m0 : Method := { name := "<init>", desc := "()V", sig := { parameters := [], returnType := none }, accessFlags := 0, code := none }
def k10c1 : Code := { maxStack := 2, maxLocals := 2, code := jdk_52_method_15_code, exceptionTable := #[], attributes := #[] }
def k10m1 : Method := { name := "coderFromArrayLen", desc := "([BI)B", sig := { parameters := [(.array .byte), .int], returnType := some .byte }, accessFlags := 8, code := some k10c1 }
def k10c2 : Code := { maxStack := 5, maxLocals := 6, code := jdk_52_method_16_code, exceptionTable := #[], attributes := #[] }
def k10m2 : Method := { name := "compress", desc := "([CII)[B", sig := { parameters := [(.array .char), .int, .int], returnType := some (.array .byte) }, accessFlags := 9, code := some k10c2 }
def k10c3 : Code := { maxStack := 3, maxLocals := 7, code := jdk_52_method_21_code, exceptionTable := #[], attributes := #[] }
def k10m3 : Method := { name := "compress", desc := "([CI[BII)I", sig := { parameters := [(.array .char), .int, (.array .byte), .int, .int], returnType := some .int }, accessFlags := 9, code := some k10c3 }
/-- java/lang/StringUTF16 -/
def k10 : Class := { plain "java/lang/StringUTF16" (some 0) with
  accessFlags := 48
  interfaces := #[]
  cf := some (fileOf pool10 12 #[.nestMembers #[627, 629, 369]] #[{ accessFlags := 0, nameIndex := 9, descriptorIndex := 10, attributes := #[] }, { accessFlags := 8, nameIndex := 261, descriptorIndex := 262, attributes := #[] }, { accessFlags := 9, nameIndex := 117, descriptorIndex := 122, attributes := #[] }, { accessFlags := 9, nameIndex := 117, descriptorIndex := 118, attributes := #[] }] 48 6 #[] #[{ accessFlags := 26, nameIndex := 61, descriptorIndex := 62, attributes := #[] }, { accessFlags := 26, nameIndex := 65, descriptorIndex := 62, attributes := #[] }, { accessFlags := 24, nameIndex := 430, descriptorIndex := 62, attributes := #[] }, { accessFlags := 4120, nameIndex := 46, descriptorIndex := 47, attributes := #[] }])
  fields := #[{ name := "HI_BYTE_SHIFT", type := .int, accessFlags := 26, slot := 0, constantValue := 0 }, { name := "LO_BYTE_SHIFT", type := .int, accessFlags := 26, slot := 1, constantValue := 0 }, { name := "MAX_LENGTH", type := .int, accessFlags := 24, slot := 2, constantValue := 0 }, { name := "$assertionsDisabled", type := .boolean, accessFlags := 4120, slot := 3, constantValue := 0 }]
  methods := #[k10m0, k10m1, k10m2, k10m3]
  instanceTypes := #[]
  staticTypes := #[.int, .int, .int, .boolean]
  resolved := Array.replicate 635 none
  statics := none }

def pool11 : Array CpInfo := pool [(1, .methodref 2 3), (0, .class_ 4), (0, .nameAndType 5 6), (0, u "java/lang/Object"), (0, u "<init>"), (0, u "()V"), (0, .class_ 8), (0, u "com/example/layered_locks/layeredlocks/AloneLocks"), (0, .class_ 10), (0, u "java/lang/String"), (0, .fieldref 7 12), (0, .nameAndType 13 14), (0, u "paths"), (0, u "[Ljava/lang/String;"), (0, .fieldref 7 16), (0, .nameAndType 17 18), (0, u "lengths"), (0, u "[I"), (0, .class_ 20), (0, u "com/example/layered_locks/layeredlocks/LockMode"), (0, .fieldref 7 22), (0, .nameAndType 23 24), (0, u "modes"), (0, u "[Lcom/example/layered_locks/layeredlocks/LockMode;"), (0, .methodref 26 27), (0, .class_ 28), (0, .nameAndType 29 30), (0, u "com/example/layered_locks/layeredlocks/Padded"), (0, u "references"), (0, u "()[Ljava/lang/Object;"), (0, .fieldref 7 32), (0, .nameAndType 33 34), (0, u "owner"), (0, u "[Ljava/lang/Object;"), (0, .class_ 36), (0, u "com/example/layered_locks/layeredlocks/Latch"), (0, .methodref 35 3), (0, .fieldref 7 39), (0, .nameAndType 40 41), (0, u "latch"), (0, u "Lcom/example/layered_locks/layeredlocks/Latch;"), (0, .fieldref 7 43), (0, .nameAndType 44 45), (0, u "size"), (0, u "I"), (20, u "number"), (0, u "MOST"), (4, u "()I"), (0, u "path"), (0, u "(I)Ljava/lang/String;"), (0, u "length"), (0, u "(I)I"), (0, u "mode"), (0, u "(I)Lcom/example/layered_locks/layeredlocks/LockMode;"), (3, u "add"), (0, u "(Ljava/lang/String;ILcom/example/layered_locks/layeredlocks/LockMode;)V")] 17

def k11c0 : Code := { maxStack := 3, maxLocals := 1, code := prog_1_method_1_code, exceptionTable := #[], attributes := #[] }
def k11m0 : Method := { name := "<init>", desc := "()V", sig := { parameters := [], returnType := none }, accessFlags := 0, code := some k11c0 }
def k11c1 : Code := { maxStack := 1, maxLocals := 1, code := prog_1_method_2_code, exceptionTable := #[], attributes := #[] }
def k11m1 : Method := { name := "size", desc := "()I", sig := { parameters := [], returnType := some .int }, accessFlags := 0, code := some k11c1 }
def k11c2 : Code := { maxStack := 2, maxLocals := 2, code := prog_1_method_3_code, exceptionTable := #[], attributes := #[] }
def k11m2 : Method := { name := "path", desc := "(I)Ljava/lang/String;", sig := { parameters := [.int], returnType := some (.object "java/lang/String") }, accessFlags := 0, code := some k11c2 }
def k11c3 : Code := { maxStack := 2, maxLocals := 2, code := prog_1_method_4_code, exceptionTable := #[], attributes := #[] }
def k11m3 : Method := { name := "length", desc := "(I)I", sig := { parameters := [.int], returnType := some .int }, accessFlags := 0, code := some k11c3 }
def k11c4 : Code := { maxStack := 2, maxLocals := 2, code := prog_1_method_5_code, exceptionTable := #[], attributes := #[] }
def k11m4 : Method := { name := "mode", desc := "(I)Lcom/example/layered_locks/layeredlocks/LockMode;", sig := { parameters := [.int], returnType := some (.object "com/example/layered_locks/layeredlocks/LockMode") }, accessFlags := 0, code := some k11c4 }
def k11c5 : Code := { maxStack := 3, maxLocals := 4, code := prog_1_method_7_code, exceptionTable := #[], attributes := #[] }
def k11m5 : Method := { name := "add", desc := "(Ljava/lang/String;ILcom/example/layered_locks/layeredlocks/LockMode;)V", sig := { parameters := [(.object "java/lang/String"), .int, (.object "com/example/layered_locks/layeredlocks/LockMode")], returnType := none }, accessFlags := 0, code := some k11c5 }
/-- com/example/layered_locks/layeredlocks/AloneLocks -/
def k11 : Class := { plain "com/example/layered_locks/layeredlocks/AloneLocks" (some 0) with
  accessFlags := 32
  interfaces := #[]
  cf := some (fileOf pool11 7 #[] #[{ accessFlags := 0, nameIndex := 5, descriptorIndex := 6, attributes := #[] }, { accessFlags := 0, nameIndex := 44, descriptorIndex := 72, attributes := #[] }, { accessFlags := 0, nameIndex := 73, descriptorIndex := 74, attributes := #[] }, { accessFlags := 0, nameIndex := 75, descriptorIndex := 76, attributes := #[] }, { accessFlags := 0, nameIndex := 77, descriptorIndex := 78, attributes := #[] }, { accessFlags := 0, nameIndex := 82, descriptorIndex := 83, attributes := #[] }] 32 2 #[] #[{ accessFlags := 24, nameIndex := 67, descriptorIndex := 45, attributes := #[] }, { accessFlags := 18, nameIndex := 13, descriptorIndex := 14, attributes := #[] }, { accessFlags := 18, nameIndex := 17, descriptorIndex := 18, attributes := #[] }, { accessFlags := 18, nameIndex := 23, descriptorIndex := 24, attributes := #[] }, { accessFlags := 2, nameIndex := 44, descriptorIndex := 45, attributes := #[] }, { accessFlags := 18, nameIndex := 33, descriptorIndex := 34, attributes := #[] }, { accessFlags := 18, nameIndex := 40, descriptorIndex := 41, attributes := #[] }, { accessFlags := 2, nameIndex := 66, descriptorIndex := 45, attributes := #[] }])
  fields := #[{ name := "MOST", type := .int, accessFlags := 24, slot := 0, constantValue := 0 }, { name := "paths", type := (.array (.object "java/lang/String")), accessFlags := 18, slot := 0, constantValue := 0 }, { name := "lengths", type := (.array .int), accessFlags := 18, slot := 1, constantValue := 0 }, { name := "modes", type := (.array (.object "com/example/layered_locks/layeredlocks/LockMode")), accessFlags := 18, slot := 2, constantValue := 0 }, { name := "size", type := .int, accessFlags := 2, slot := 3, constantValue := 0 }, { name := "owner", type := (.array (.object "java/lang/Object")), accessFlags := 18, slot := 4, constantValue := 0 }, { name := "latch", type := (.object "com/example/layered_locks/layeredlocks/Latch"), accessFlags := 18, slot := 5, constantValue := 0 }, { name := "number", type := .int, accessFlags := 2, slot := 6, constantValue := 0 }]
  methods := #[k11m0, k11m1, k11m2, k11m3, k11m4, k11m5]
  instanceTypes := #[(.array (.object "java/lang/String")), (.array .int), (.array (.object "com/example/layered_locks/layeredlocks/LockMode")), .int, (.array (.object "java/lang/Object")), (.object "com/example/layered_locks/layeredlocks/Latch"), .int]
  staticTypes := #[.int]
  resolved := Array.replicate 101 none
  statics := none }

def pool12 : Array CpInfo := pool [(2, .class_ 4), (1, u "java/lang/Object"), (0, u "<init>"), (0, u "()V"), (0, .class_ 8), (0, u "com/example/layered_locks/layeredlocks/Padded"), (0, u "MIDDLE"), (0, u "I"), (4, u "ints"), (0, u "()[I"), (2, u "references"), (0, u "()[Ljava/lang/Object;")] 2

def k12m0 : Method := { name := "<init>", desc := "()V", sig := { parameters := [], returnType := none }, accessFlags := 2, code := none }
def k12c1 : Code := { maxStack := 1, maxLocals := 0, code := prog_54_method_2_code, exceptionTable := #[], attributes := #[] }
def k12m1 : Method := { name := "ints", desc := "()[I", sig := { parameters := [], returnType := some (.array .int) }, accessFlags := 8, code := some k12c1 }
def k12c2 : Code := { maxStack := 1, maxLocals := 0, code := prog_54_method_4_code, exceptionTable := #[], attributes := #[] }
def k12m2 : Method := { name := "references", desc := "()[Ljava/lang/Object;", sig := { parameters := [], returnType := some (.array (.object "java/lang/Object")) }, accessFlags := 8, code := some k12c2 }
/-- com/example/layered_locks/layeredlocks/Padded -/
def k12 : Class := { plain "com/example/layered_locks/layeredlocks/Padded" (some 0) with
  accessFlags := 32
  interfaces := #[]
  cf := some (fileOf pool12 7 #[] #[{ accessFlags := 2, nameIndex := 5, descriptorIndex := 6, attributes := #[] }, { accessFlags := 8, nameIndex := 15, descriptorIndex := 16, attributes := #[] }, { accessFlags := 8, nameIndex := 19, descriptorIndex := 20, attributes := #[] }] 32 2 #[] #[{ accessFlags := 24, nameIndex := 9, descriptorIndex := 10, attributes := #[] }])
  fields := #[{ name := "MIDDLE", type := .int, accessFlags := 24, slot := 0, constantValue := 0 }]
  methods := #[k12m0, k12m1, k12m2]
  instanceTypes := #[]
  staticTypes := #[.int]
  resolved := Array.replicate 23 none
  statics := none }

def pool13 : Array CpInfo := pool [(1, .class_ 2), (0, u "com/example/layered_locks/layeredlocks/Padded"), (0, .methodref 4 5), (0, .class_ 6), (0, .nameAndType 7 8), (0, u "java/lang/Object"), (0, u "<init>"), (0, u "()V"), (0, .methodref 1 10), (0, .nameAndType 11 12), (0, u "ints"), (0, u "()[I"), (0, .fieldref 14 15), (0, .class_ 16), (0, .nameAndType 17 18), (0, u "com/example/layered_locks/layeredlocks/Latch"), (0, u "held"), (0, u "[I"), (2, u "CELL"), (0, u "Ljava/lang/invoke/VarHandle;"), (21, u "NONE"), (0, u "I"), (2, u "PUBLISHED")] 15

def k13c0 : Code := { maxStack := 3, maxLocals := 1, code := prog_30_method_1_code, exceptionTable := #[], attributes := #[] }
def k13m0 : Method := { name := "<init>", desc := "()V", sig := { parameters := [], returnType := none }, accessFlags := 0, code := some k13c0 }
/-- com/example/layered_locks/layeredlocks/Latch -/
def k13 : Class := { plain "com/example/layered_locks/layeredlocks/Latch" (some 0) with
  accessFlags := 32
  interfaces := #[]
  cf := some (fileOf pool13 14 #[] #[{ accessFlags := 0, nameIndex := 7, descriptorIndex := 8, attributes := #[] }] 32 4 #[] #[{ accessFlags := 24, nameIndex := 44, descriptorIndex := 45, attributes := #[] }, { accessFlags := 26, nameIndex := 21, descriptorIndex := 22, attributes := #[] }, { accessFlags := 26, nameIndex := 48, descriptorIndex := 45, attributes := #[] }, { accessFlags := 18, nameIndex := 17, descriptorIndex := 18, attributes := #[] }])
  fields := #[{ name := "NONE", type := .int, accessFlags := 24, slot := 0, constantValue := 0 }, { name := "CELL", type := (.object "java/lang/invoke/VarHandle"), accessFlags := 26, slot := 1, constantValue := 0 }, { name := "PUBLISHED", type := .int, accessFlags := 26, slot := 2, constantValue := 0 }, { name := "held", type := (.array .int), accessFlags := 18, slot := 0, constantValue := 0 }]
  methods := #[k13m0]
  instanceTypes := #[(.array .int)]
  staticTypes := #[.int, (.object "java/lang/invoke/VarHandle"), .int]
  resolved := Array.replicate 64 none
  statics := none }

def pool14 : Array CpInfo := pool [(4, .class_ 6), (1, u "java/lang/Object"), (0, u "<init>"), (0, u "()V"), (5, .class_ 16), (1, u "java/lang/StringLatin1"), (104, u "$assertionsDisabled"), (0, u "Z"), (98, .class_ 223), (1, u "java/lang/StringLatin1$LinesSpliterator"), (166, .class_ 391), (0, u "java/lang/StringLatin1$CharsSpliterator")] 3

def k14m0 : Method := { name := "<init>", desc := "()V", sig := { parameters := [], returnType := none }, accessFlags := 0, code := none }
/-- java/lang/StringLatin1 -/
def k14 : Class := { plain "java/lang/StringLatin1" (some 0) with
  accessFlags := 48
  interfaces := #[]
  cf := some (fileOf pool14 14 #[.nestMembers #[390, 221]] #[{ accessFlags := 0, nameIndex := 7, descriptorIndex := 8, attributes := #[] }] 48 4 #[] #[{ accessFlags := 4120, nameIndex := 121, descriptorIndex := 122, attributes := #[] }])
  fields := #[{ name := "$assertionsDisabled", type := .boolean, accessFlags := 4120, slot := 0, constantValue := 0 }]
  methods := #[k14m0]
  instanceTypes := #[]
  staticTypes := #[.boolean]
  resolved := Array.replicate 395 none
  statics := none }

def pool15 : Array CpInfo := pool [(2, .class_ 4), (1, u "java/lang/Object"), (0, u "<init>"), (0, u "()V"), (17, .class_ 26), (1, u "jdk/internal/util/Preconditions"), (28, .class_ 56), (0, u "jdk/internal/util/Preconditions$4"), (57, .class_ 115), (0, u "jdk/internal/util/Preconditions$1"), (7, u "SIOOBE_FORMATTER"), (0, u "Ljava/util/function/BiFunction;"), (0, .class_ 126), (0, u "jdk/internal/util/Preconditions$2"), (3, u "AIOOBE_FORMATTER"), (0, .class_ 132), (0, u "jdk/internal/util/Preconditions$3"), (3, u "IOOBE_FORMATTER")] 57

def k15m0 : Method := { name := "<init>", desc := "()V", sig := { parameters := [], returnType := none }, accessFlags := 1, code := none }
/-- jdk/internal/util/Preconditions -/
def k15 : Class := { plain "jdk/internal/util/Preconditions" (some 0) with
  accessFlags := 33
  interfaces := #[]
  cf := some (fileOf pool15 24 #[.nestMembers #[55, 131, 125, 114]] #[{ accessFlags := 1, nameIndex := 5, descriptorIndex := 6, attributes := #[] }] 33 2 #[] #[{ accessFlags := 25, nameIndex := 123, descriptorIndex := 124, attributes := #[] }, { accessFlags := 25, nameIndex := 130, descriptorIndex := 124, attributes := #[] }, { accessFlags := 25, nameIndex := 136, descriptorIndex := 124, attributes := #[] }])
  fields := #[{ name := "SIOOBE_FORMATTER", type := (.object "java/util/function/BiFunction"), accessFlags := 25, slot := 0, constantValue := 0 }, { name := "AIOOBE_FORMATTER", type := (.object "java/util/function/BiFunction"), accessFlags := 25, slot := 1, constantValue := 0 }, { name := "IOOBE_FORMATTER", type := (.object "java/util/function/BiFunction"), accessFlags := 25, slot := 2, constantValue := 0 }]
  methods := #[k15m0]
  instanceTypes := #[]
  staticTypes := #[(.object "java/util/function/BiFunction"), (.object "java/util/function/BiFunction"), (.object "java/util/function/BiFunction")]
  resolved := Array.replicate 194 none
  statics := some 2 }

def pool16 : Array CpInfo := pool [(9, u "<init>"), (6, .class_ 18), (1, u "java/lang/Object"), (0, u "()V"), (1, .class_ 23), (1, u "jdk/internal/util/ArraysSupport"), (0, u "LOG2_ARRAY_LONG_INDEX_SCALE"), (0, u "I"), (2, u "U"), (0, u "Ljdk/internal/misc/Unsafe;"), (8, u "BIG_ENDIAN"), (0, u "Z"), (8, u "LOG2_BYTE_BIT_SIZE"), (4, u "LOG2_ARRAY_INT_INDEX_SCALE"), (54, u "JLA"), (0, u "Ljdk/internal/access/JavaLangAccess;"), (11, u "LOG2_ARRAY_BOOLEAN_INDEX_SCALE"), (9, u "LOG2_ARRAY_BYTE_INDEX_SCALE"), (5, u "LOG2_ARRAY_CHAR_INDEX_SCALE"), (5, u "LOG2_ARRAY_SHORT_INDEX_SCALE"), (18, u "LOG2_ARRAY_FLOAT_INDEX_SCALE"), (24, u "LOG2_ARRAY_DOUBLE_INDEX_SCALE"), (89, u "T_BOOLEAN"), (2, u "T_CHAR"), (1, u "T_FLOAT"), (1, u "T_DOUBLE"), (1, u "T_BYTE"), (1, u "T_SHORT"), (1, u "T_INT"), (1, u "T_LONG"), (1, u "SOFT_MAX_ARRAY_LENGTH")] 83

def k16m0 : Method := { name := "<init>", desc := "()V", sig := { parameters := [], returnType := none }, accessFlags := 2, code := none }
/-- jdk/internal/util/ArraysSupport -/
def k16 : Class := { plain "jdk/internal/util/ArraysSupport" (some 0) with
  accessFlags := 33
  interfaces := #[]
  cf := some (fileOf pool16 21 #[] #[{ accessFlags := 2, nameIndex := 9, descriptorIndex := 19, attributes := #[] }] 33 16 #[] #[{ accessFlags := 24, nameIndex := 28, descriptorIndex := 29, attributes := #[] }, { accessFlags := 26, nameIndex := 38, descriptorIndex := 39, attributes := #[] }, { accessFlags := 25, nameIndex := 121, descriptorIndex := 25, attributes := #[] }, { accessFlags := 25, nameIndex := 131, descriptorIndex := 25, attributes := #[] }, { accessFlags := 25, nameIndex := 137, descriptorIndex := 25, attributes := #[] }, { accessFlags := 25, nameIndex := 143, descriptorIndex := 25, attributes := #[] }, { accessFlags := 25, nameIndex := 53, descriptorIndex := 25, attributes := #[] }, { accessFlags := 25, nameIndex := 24, descriptorIndex := 25, attributes := #[] }, { accessFlags := 25, nameIndex := 162, descriptorIndex := 25, attributes := #[] }, { accessFlags := 25, nameIndex := 187, descriptorIndex := 25, attributes := #[] }, { accessFlags := 26, nameIndex := 48, descriptorIndex := 25, attributes := #[] }, { accessFlags := 25, nameIndex := 277, descriptorIndex := 25, attributes := #[] }, { accessFlags := 25, nameIndex := 280, descriptorIndex := 25, attributes := #[] }, { accessFlags := 25, nameIndex := 282, descriptorIndex := 25, attributes := #[] }, { accessFlags := 25, nameIndex := 284, descriptorIndex := 25, attributes := #[] }, { accessFlags := 25, nameIndex := 286, descriptorIndex := 25, attributes := #[] }, { accessFlags := 25, nameIndex := 288, descriptorIndex := 25, attributes := #[] }, { accessFlags := 25, nameIndex := 290, descriptorIndex := 25, attributes := #[] }, { accessFlags := 25, nameIndex := 292, descriptorIndex := 25, attributes := #[] }, { accessFlags := 26, nameIndex := 108, descriptorIndex := 109, attributes := #[] }, { accessFlags := 25, nameIndex := 294, descriptorIndex := 25, attributes := #[] }])
  fields := #[{ name := "U", type := (.object "jdk/internal/misc/Unsafe"), accessFlags := 24, slot := 0, constantValue := 0 }, { name := "BIG_ENDIAN", type := .boolean, accessFlags := 26, slot := 1, constantValue := 0 }, { name := "LOG2_ARRAY_BOOLEAN_INDEX_SCALE", type := .int, accessFlags := 25, slot := 2, constantValue := 0 }, { name := "LOG2_ARRAY_BYTE_INDEX_SCALE", type := .int, accessFlags := 25, slot := 3, constantValue := 0 }, { name := "LOG2_ARRAY_CHAR_INDEX_SCALE", type := .int, accessFlags := 25, slot := 4, constantValue := 0 }, { name := "LOG2_ARRAY_SHORT_INDEX_SCALE", type := .int, accessFlags := 25, slot := 5, constantValue := 0 }, { name := "LOG2_ARRAY_INT_INDEX_SCALE", type := .int, accessFlags := 25, slot := 6, constantValue := 0 }, { name := "LOG2_ARRAY_LONG_INDEX_SCALE", type := .int, accessFlags := 25, slot := 7, constantValue := 0 }, { name := "LOG2_ARRAY_FLOAT_INDEX_SCALE", type := .int, accessFlags := 25, slot := 8, constantValue := 0 }, { name := "LOG2_ARRAY_DOUBLE_INDEX_SCALE", type := .int, accessFlags := 25, slot := 9, constantValue := 0 }, { name := "LOG2_BYTE_BIT_SIZE", type := .int, accessFlags := 26, slot := 10, constantValue := 0 }, { name := "T_BOOLEAN", type := .int, accessFlags := 25, slot := 11, constantValue := 0 }, { name := "T_CHAR", type := .int, accessFlags := 25, slot := 12, constantValue := 0 }, { name := "T_FLOAT", type := .int, accessFlags := 25, slot := 13, constantValue := 0 }, { name := "T_DOUBLE", type := .int, accessFlags := 25, slot := 14, constantValue := 0 }, { name := "T_BYTE", type := .int, accessFlags := 25, slot := 15, constantValue := 0 }, { name := "T_SHORT", type := .int, accessFlags := 25, slot := 16, constantValue := 0 }, { name := "T_INT", type := .int, accessFlags := 25, slot := 17, constantValue := 0 }, { name := "T_LONG", type := .int, accessFlags := 25, slot := 18, constantValue := 0 }, { name := "JLA", type := (.object "jdk/internal/access/JavaLangAccess"), accessFlags := 26, slot := 19, constantValue := 0 }, { name := "SOFT_MAX_ARRAY_LENGTH", type := .int, accessFlags := 25, slot := 20, constantValue := 0 }]
  methods := #[k16m0]
  instanceTypes := #[]
  staticTypes := #[(.object "jdk/internal/misc/Unsafe"), .boolean, .int, .int, .int, .int, .int, .int, .int, .int, .int, .int, .int, .int, .int, .int, .int, .int, .int, (.object "jdk/internal/access/JavaLangAccess"), .int]
  resolved := Array.replicate 378 none
  statics := none }

def pool17 : Array CpInfo := pool [(1, u "java/lang/Cloneable"), (0, .class_ 1), (0, u "java/lang/Object"), (0, .class_ 3)] 3

/-- java/lang/Cloneable -/
def k17 : Class := { plain "java/lang/Cloneable" (some 0) with
  accessFlags := 1537
  interfaces := #[]
  cf := some (fileOf pool17 2 #[] #[] 1537 4 #[] #[])
  fields := #[]
  methods := #[]
  instanceTypes := #[]
  staticTypes := #[]
  resolved := Array.replicate 8 none
  statics := none }

/-- the primitive byte -/
def k18 : Class := { plain "byte" none with kind := .primitive 'B', accessFlags := 0x411 }
/-- [B -/
def k19 : Class := { plain "[B" (some 0) with kind := .array 18 .byte, interfaces := #[17, 4], accessFlags := 1041 }

/-- the primitive char -/
def k20 : Class := { plain "char" none with kind := .primitive 'C', accessFlags := 0x411 }
/-- [C -/
def k21 : Class := { plain "[C" (some 0) with kind := .array 20 .char, interfaces := #[17, 4], accessFlags := 1041 }

/-- the primitive int -/
def k22 : Class := { plain "int" none with kind := .primitive 'I', accessFlags := 0x411 }
/-- [I -/
def k23 : Class := { plain "[I" (some 0) with kind := .array 22 .int, interfaces := #[17, 4], accessFlags := 1041 }

/-- [Lcom/example/layered_locks/layeredlocks/LockMode; -/
def k24 : Class := { plain "[Lcom/example/layered_locks/layeredlocks/LockMode;" (some 0) with kind := .array 6 (.object "com/example/layered_locks/layeredlocks/LockMode"), interfaces := #[17, 4], accessFlags := 1041 }

/-- [Ljava/lang/Object; -/
def k25 : Class := { plain "[Ljava/lang/Object;" (some 0) with kind := .array 0 (.object "java/lang/Object"), interfaces := #[17, 4], accessFlags := 1041 }

/-- [Ljava/lang/String; -/
def k26 : Class := { plain "[Ljava/lang/String;" (some 0) with kind := .array 9 (.object "java/lang/String"), interfaces := #[17, 4], accessFlags := 1041 }

def heap : Heap := #[{ cls := 6, slots := #[.ref 3, .ref 4, .ref 5, .ref 6, .ref 7, .int 0, .int 0, .null, .null, .null], vm := .statics 6 },
  { cls := 9, slots := #[.long 0, .int 1, .null, .int 0, .null, .int 0, .int 0], vm := .statics 9 },
  { cls := 15, slots := #[.null, .null, .null], vm := .statics 15 },
  { cls := 6, slots := #[.null, .int 0, .int 0], vm := .none },
  { cls := 6, slots := #[.null, .int 1, .int 0], vm := .none },
  { cls := 6, slots := #[.null, .int 2, .int 0], vm := .none },
  { cls := 6, slots := #[.null, .int 3, .int 0], vm := .none },
  { cls := 6, slots := #[.null, .int 4, .int 0], vm := .none }]
def classes : Array Class := #[k0, k1, k2, k3, k4, k5, k6, k7, k8, k9, k10, k11, k12, k13, k14, k15, k16, k17, k18, k19, k20, k21, k22, k23, k24, k25, k26]
def interned : List (Array UInt16 × Addr) := []
def slotsUsed : Nat := 35
def theMethod : MethodId := ⟨1, 2⟩
def args0 : Array Value := #[.int 3, .int 66, .int 67, .int 1, .int 2]
def aboutOver (below : List Frame) : State where
  vm := { classes := classes, interned := interned.toArray }
  heap := heap
  slotsUsed := slotsUsed
  threads := #[{ frames := .invoking theMethod args0 :: below }]
def below0 : List Frame := [.native { method := ⟨0, 0⟩, args := #[] }]
def about1 : State := aboutOver below0
def p0 : Program := .bare "" "" ""
def e0 : Env := launch0.env 0 0 0
theorem w_frames : about1.frames = Frame.invoking theMethod args0 :: below0 := rfl
set_option maxRecDepth 65536 in
theorem w_args : argsFit about1.vm theMethod args0 = true := by decide +kernel
set_option maxRecDepth 65536 in
theorem w_heap : heapFits about1 = true := by decide +kernel
set_option maxRecDepth 65536 in
theorem w_runnable : about1.curStatus? = some .runnable := by decide +kernel
set_option maxRecDepth 65536 in
theorem w_alone : about1.alone = true := by decide +kernel
set_option maxRecDepth 65536 in
theorem w_named : about1.methodNamed? x = some theMethod := by decide +kernel
set_option maxRecDepth 65536 in
theorem w_hears : about1.hears theMethod below0 = true := by decide +kernel
set_option maxRecDepth 65536 in
theorem w_ripe : about1.ripe theMethod args0 below0 = true := by decide +kernel
theorem w_running : about1.status = .running := rfl
set_option maxRecDepth 65536 in
theorem w_room : about1.hasRoom e0.platform room_1 = true :=
  launch0.hasRoom_least _ room_1 (by decide +kernel) (by decide +kernel) (by decide +kernel) (by decide +kernel) (by decide +kernel) (by decide +kernel)
theorem allAtoms_all (ts : List Jvm.Cond) (a : Array Jvm.Value) (st : Jvm.State) : (allAtoms ts).before a st = ts.all (fun c => c.before a st) := by
  induction ts with
  | nil => rfl
  | cons c t ih =>
    show (Jvm.Cond.and c (allAtoms t)).before a st = _
    rw [Jvm.Cond.before_and, ih, List.all_cons]
def words1 : List Jvm.Cond := Jvm.Cond.code x code maxLocals ret :: tables_1
/-- a 'code' word, met by the world's own term for the bytes: nothing is compared byte by byte -/
theorem code_word {y : MethodName} {bytes : ByteArray} {mx : Nat} {rt : Option FieldType} {a : Array Value} {s : State} {m : MethodId} {meth : Method} {c : Code} (h1 : s.methodNamed? y = some m) (h2 : s.vm.method? m = some meth) (h3 : meth.code = some c) (h4 : c.code = bytes)
    (h5 : (c.maxLocals == mx && c.exceptionTable.isEmpty && decide (c.maxStack ≤ mostOperands) && decide (meth.sig.returnType = rt) && !meth.locks && decide (parseMethodDescriptor y.desc = some meth.sig)) = true) : (Jvm.Cond.code y bytes mx rt).before a s = true := by
  simp only [Bool.and_eq_true, beq_iff_eq, Bool.not_eq_true', decide_eq_true_eq] at h5
  obtain ⟨⟨⟨⟨⟨g1, g2⟩, g3⟩, g4⟩, g5⟩, g6⟩ := h5
  simp [Cond.before, Cond.holds, Cond.value, h1, h2, h3, h4, g1, g2, g3, g4, g5, g6]
def isCode : Jvm.Cond → Bool
  | .code _ _ _ _ => true
  | _ => false
theorem all_split {L : List Jvm.Cond} {P : Jvm.Cond → Bool} (h1 : L.all (fun c => isCode c || P c) = true) (h2 : ∀ c ∈ L.filter isCode, P c = true) : L.all P = true := by
  refine List.all_eq_true.mpr fun c hc => ?_
  have h := List.all_eq_true.mp h1 c hc
  rcases Bool.eq_false_or_eq_true (isCode c) with hi | hi
  · exact h2 c (List.mem_filter.mpr ⟨hc, hi⟩)
  · simpa [hi] using h
set_option maxRecDepth 65536 in
theorem w_c0 : (Jvm.Cond.code x code maxLocals ret).before args0 about1 = true := code_word (m := ⟨1, 2⟩) (meth := k1m2) (c := k1c2) (by decide +kernel) rfl rfl rfl (by decide +kernel)
set_option maxRecDepth 65536 in
theorem w_c1 : (Jvm.Cond.code ({ cls := "com/example/layered_locks/layeredlocks/AloneLocksAddPinLaw", name := "pick", desc := "(I)Lcom/example/layered_locks/layeredlocks/LockMode;" } : Jvm.MethodName) method_2_code (1 : Nat) (Option.some (Jvm.ClassFile.FieldType.object "com/example/layered_locks/layeredlocks/LockMode"))).before args0 about1 = true := code_word (m := ⟨1, 1⟩) (meth := k1m1) (c := k1c1) (by decide +kernel) rfl rfl rfl (by decide +kernel)
set_option maxRecDepth 65536 in
theorem w_c2 : (Jvm.Cond.code ({ cls := "java/lang/String", name := "<init>", desc := "([C)V" } : Jvm.MethodName) jdk_42_method_3_code (2 : Nat) (Option.none : Option Jvm.ClassFile.FieldType)).before args0 about1 = true := code_word (m := ⟨9, 1⟩) (meth := k9m1) (c := k9c1) (by decide +kernel) rfl rfl rfl (by decide +kernel)
set_option maxRecDepth 65536 in
theorem w_c3 : (Jvm.Cond.code ({ cls := "java/lang/String", name := "<init>", desc := "([CIILjava/lang/Void;)V" } : Jvm.MethodName) jdk_42_method_149_code (6 : Nat) (Option.none : Option Jvm.ClassFile.FieldType)).before args0 about1 = true := code_word (m := ⟨9, 2⟩) (meth := k9m2) (c := k9c2) (by decide +kernel) rfl rfl rfl (by decide +kernel)
set_option maxRecDepth 65536 in
theorem w_c4 : (Jvm.Cond.code ({ cls := "java/lang/Object", name := "<init>", desc := "()V" } : Jvm.MethodName) object_method_1_code (1 : Nat) (Option.none : Option Jvm.ClassFile.FieldType)).before args0 about1 = true := code_word (m := ⟨0, 0⟩) (meth := k0m0) (c := k0c0) (by decide +kernel) rfl rfl rfl (by decide +kernel)
set_option maxRecDepth 65536 in
theorem w_c5 : (Jvm.Cond.code ({ cls := "java/lang/StringUTF16", name := "compress", desc := "([CII)[B" } : Jvm.MethodName) jdk_52_method_16_code (6 : Nat) (Option.some (Jvm.ClassFile.FieldType.array Jvm.ClassFile.FieldType.byte))).before args0 about1 = true := code_word (m := ⟨10, 2⟩) (meth := k10m2) (c := k10c2) (by decide +kernel) rfl rfl rfl (by decide +kernel)
set_option maxRecDepth 65536 in
theorem w_c6 : (Jvm.Cond.code ({ cls := "java/lang/StringUTF16", name := "compress", desc := "([CI[BII)I" } : Jvm.MethodName) jdk_52_method_21_code (7 : Nat) (Option.some Jvm.ClassFile.FieldType.int)).before args0 about1 = true := code_word (m := ⟨10, 3⟩) (meth := k10m3) (c := k10c3) (by decide +kernel) rfl rfl rfl (by decide +kernel)
set_option maxRecDepth 65536 in
theorem w_c7 : (Jvm.Cond.code ({ cls := "java/lang/StringUTF16", name := "coderFromArrayLen", desc := "([BI)B" } : Jvm.MethodName) jdk_52_method_15_code (2 : Nat) (Option.some Jvm.ClassFile.FieldType.byte)).before args0 about1 = true := code_word (m := ⟨10, 1⟩) (meth := k10m1) (c := k10c1) (by decide +kernel) rfl rfl rfl (by decide +kernel)
set_option maxRecDepth 65536 in
theorem w_c8 : (Jvm.Cond.code ({ cls := "com/example/layered_locks/layeredlocks/AloneLocks", name := "<init>", desc := "()V" } : Jvm.MethodName) prog_1_method_1_code (1 : Nat) (Option.none : Option Jvm.ClassFile.FieldType)).before args0 about1 = true := code_word (m := ⟨11, 0⟩) (meth := k11m0) (c := k11c0) (by decide +kernel) rfl rfl rfl (by decide +kernel)
set_option maxRecDepth 65536 in
theorem w_c9 : (Jvm.Cond.code ({ cls := "com/example/layered_locks/layeredlocks/Padded", name := "references", desc := "()[Ljava/lang/Object;" } : Jvm.MethodName) prog_54_method_4_code (0 : Nat) (Option.some (Jvm.ClassFile.FieldType.array (Jvm.ClassFile.FieldType.object "java/lang/Object")))).before args0 about1 = true := code_word (m := ⟨12, 2⟩) (meth := k12m2) (c := k12c2) (by decide +kernel) rfl rfl rfl (by decide +kernel)
set_option maxRecDepth 65536 in
theorem w_c10 : (Jvm.Cond.code ({ cls := "com/example/layered_locks/layeredlocks/Latch", name := "<init>", desc := "()V" } : Jvm.MethodName) prog_30_method_1_code (1 : Nat) (Option.none : Option Jvm.ClassFile.FieldType)).before args0 about1 = true := code_word (m := ⟨13, 0⟩) (meth := k13m0) (c := k13c0) (by decide +kernel) rfl rfl rfl (by decide +kernel)
set_option maxRecDepth 65536 in
theorem w_c11 : (Jvm.Cond.code ({ cls := "com/example/layered_locks/layeredlocks/Padded", name := "ints", desc := "()[I" } : Jvm.MethodName) prog_54_method_2_code (0 : Nat) (Option.some (Jvm.ClassFile.FieldType.array Jvm.ClassFile.FieldType.int))).before args0 about1 = true := code_word (m := ⟨12, 1⟩) (meth := k12m1) (c := k12c1) (by decide +kernel) rfl rfl rfl (by decide +kernel)
set_option maxRecDepth 65536 in
theorem w_c12 : (Jvm.Cond.code ({ cls := "com/example/layered_locks/layeredlocks/AloneLocks", name := "add", desc := "(Ljava/lang/String;ILcom/example/layered_locks/layeredlocks/LockMode;)V" } : Jvm.MethodName) prog_1_method_7_code (4 : Nat) (Option.none : Option Jvm.ClassFile.FieldType)).before args0 about1 = true := code_word (m := ⟨11, 5⟩) (meth := k11m5) (c := k11c5) (by decide +kernel) rfl rfl rfl (by decide +kernel)
set_option maxRecDepth 65536 in
theorem w_c13 : (Jvm.Cond.code ({ cls := "com/example/layered_locks/layeredlocks/AloneLocks", name := "size", desc := "()I" } : Jvm.MethodName) prog_1_method_2_code (1 : Nat) (Option.some Jvm.ClassFile.FieldType.int)).before args0 about1 = true := code_word (m := ⟨11, 1⟩) (meth := k11m1) (c := k11c1) (by decide +kernel) rfl rfl rfl (by decide +kernel)
set_option maxRecDepth 65536 in
theorem w_c14 : (Jvm.Cond.code ({ cls := "com/example/layered_locks/layeredlocks/AloneLocks", name := "path", desc := "(I)Ljava/lang/String;" } : Jvm.MethodName) prog_1_method_3_code (2 : Nat) (Option.some (Jvm.ClassFile.FieldType.object "java/lang/String"))).before args0 about1 = true := code_word (m := ⟨11, 2⟩) (meth := k11m2) (c := k11c2) (by decide +kernel) rfl rfl rfl (by decide +kernel)
set_option maxRecDepth 65536 in
theorem w_c15 : (Jvm.Cond.code ({ cls := "com/example/layered_locks/layeredlocks/AloneLocks", name := "length", desc := "(I)I" } : Jvm.MethodName) prog_1_method_4_code (2 : Nat) (Option.some Jvm.ClassFile.FieldType.int)).before args0 about1 = true := code_word (m := ⟨11, 3⟩) (meth := k11m3) (c := k11c3) (by decide +kernel) rfl rfl rfl (by decide +kernel)
set_option maxRecDepth 65536 in
theorem w_c16 : (Jvm.Cond.code ({ cls := "com/example/layered_locks/layeredlocks/AloneLocks", name := "mode", desc := "(I)Lcom/example/layered_locks/layeredlocks/LockMode;" } : Jvm.MethodName) prog_1_method_5_code (2 : Nat) (Option.some (Jvm.ClassFile.FieldType.object "com/example/layered_locks/layeredlocks/LockMode"))).before args0 about1 = true := code_word (m := ⟨11, 4⟩) (meth := k11m4) (c := k11c4) (by decide +kernel) rfl rfl rfl (by decide +kernel)
def codes1 : List Jvm.Cond := [Jvm.Cond.code x code maxLocals ret, Jvm.Cond.code ({ cls := "com/example/layered_locks/layeredlocks/AloneLocksAddPinLaw", name := "pick", desc := "(I)Lcom/example/layered_locks/layeredlocks/LockMode;" } : Jvm.MethodName) method_2_code (1 : Nat) (Option.some (Jvm.ClassFile.FieldType.object "com/example/layered_locks/layeredlocks/LockMode")), Jvm.Cond.code ({ cls := "java/lang/String", name := "<init>", desc := "([C)V" } : Jvm.MethodName) jdk_42_method_3_code (2 : Nat) (Option.none : Option Jvm.ClassFile.FieldType), Jvm.Cond.code ({ cls := "java/lang/String", name := "<init>", desc := "([CIILjava/lang/Void;)V" } : Jvm.MethodName) jdk_42_method_149_code (6 : Nat) (Option.none : Option Jvm.ClassFile.FieldType), Jvm.Cond.code ({ cls := "java/lang/Object", name := "<init>", desc := "()V" } : Jvm.MethodName) object_method_1_code (1 : Nat) (Option.none : Option Jvm.ClassFile.FieldType), Jvm.Cond.code ({ cls := "java/lang/StringUTF16", name := "compress", desc := "([CII)[B" } : Jvm.MethodName) jdk_52_method_16_code (6 : Nat) (Option.some (Jvm.ClassFile.FieldType.array Jvm.ClassFile.FieldType.byte)), Jvm.Cond.code ({ cls := "java/lang/StringUTF16", name := "compress", desc := "([CI[BII)I" } : Jvm.MethodName) jdk_52_method_21_code (7 : Nat) (Option.some Jvm.ClassFile.FieldType.int), Jvm.Cond.code ({ cls := "java/lang/StringUTF16", name := "coderFromArrayLen", desc := "([BI)B" } : Jvm.MethodName) jdk_52_method_15_code (2 : Nat) (Option.some Jvm.ClassFile.FieldType.byte), Jvm.Cond.code ({ cls := "com/example/layered_locks/layeredlocks/AloneLocks", name := "<init>", desc := "()V" } : Jvm.MethodName) prog_1_method_1_code (1 : Nat) (Option.none : Option Jvm.ClassFile.FieldType), Jvm.Cond.code ({ cls := "com/example/layered_locks/layeredlocks/Padded", name := "references", desc := "()[Ljava/lang/Object;" } : Jvm.MethodName) prog_54_method_4_code (0 : Nat) (Option.some (Jvm.ClassFile.FieldType.array (Jvm.ClassFile.FieldType.object "java/lang/Object"))), Jvm.Cond.code ({ cls := "com/example/layered_locks/layeredlocks/Latch", name := "<init>", desc := "()V" } : Jvm.MethodName) prog_30_method_1_code (1 : Nat) (Option.none : Option Jvm.ClassFile.FieldType), Jvm.Cond.code ({ cls := "com/example/layered_locks/layeredlocks/Padded", name := "ints", desc := "()[I" } : Jvm.MethodName) prog_54_method_2_code (0 : Nat) (Option.some (Jvm.ClassFile.FieldType.array Jvm.ClassFile.FieldType.int)), Jvm.Cond.code ({ cls := "com/example/layered_locks/layeredlocks/AloneLocks", name := "add", desc := "(Ljava/lang/String;ILcom/example/layered_locks/layeredlocks/LockMode;)V" } : Jvm.MethodName) prog_1_method_7_code (4 : Nat) (Option.none : Option Jvm.ClassFile.FieldType), Jvm.Cond.code ({ cls := "com/example/layered_locks/layeredlocks/AloneLocks", name := "size", desc := "()I" } : Jvm.MethodName) prog_1_method_2_code (1 : Nat) (Option.some Jvm.ClassFile.FieldType.int), Jvm.Cond.code ({ cls := "com/example/layered_locks/layeredlocks/AloneLocks", name := "path", desc := "(I)Ljava/lang/String;" } : Jvm.MethodName) prog_1_method_3_code (2 : Nat) (Option.some (Jvm.ClassFile.FieldType.object "java/lang/String")), Jvm.Cond.code ({ cls := "com/example/layered_locks/layeredlocks/AloneLocks", name := "length", desc := "(I)I" } : Jvm.MethodName) prog_1_method_4_code (2 : Nat) (Option.some Jvm.ClassFile.FieldType.int), Jvm.Cond.code ({ cls := "com/example/layered_locks/layeredlocks/AloneLocks", name := "mode", desc := "(I)Lcom/example/layered_locks/layeredlocks/LockMode;" } : Jvm.MethodName) prog_1_method_5_code (2 : Nat) (Option.some (Jvm.ClassFile.FieldType.object "com/example/layered_locks/layeredlocks/LockMode"))]
set_option maxRecDepth 65536 in
theorem codes_eq : words1.filter isCode = codes1 := rfl
theorem w_codes : ∀ c ∈ words1.filter isCode, c.before args0 about1 = true := by
  rw [codes_eq]
  intro c hc
  simp only [codes1, List.mem_cons, List.not_mem_nil, or_false] at hc
  rcases hc with rfl | rfl | rfl | rfl | rfl | rfl | rfl | rfl | rfl | rfl | rfl | rfl | rfl | rfl | rfl | rfl | rfl
  · exact w_c0
  · exact w_c1
  · exact w_c2
  · exact w_c3
  · exact w_c4
  · exact w_c5
  · exact w_c6
  · exact w_c7
  · exact w_c8
  · exact w_c9
  · exact w_c10
  · exact w_c11
  · exact w_c12
  · exact w_c13
  · exact w_c14
  · exact w_c15
  · exact w_c16
set_option maxRecDepth 65536 in
theorem w_t1 : (words1.take 24).all (fun c => isCode c || c.before args0 about1) = true := by decide +kernel
set_option maxRecDepth 65536 in
theorem w_t2 : ((words1.drop 24).take 24).all (fun c => isCode c || c.before args0 about1) = true := by decide +kernel
set_option maxRecDepth 65536 in
theorem w_t3 : (((words1.drop 24).drop 24).take 24).all (fun c => isCode c || c.before args0 about1) = true := by decide +kernel
set_option maxRecDepth 65536 in
theorem w_t4 : ((((words1.drop 24).drop 24).drop 24).take 24).all (fun c => isCode c || c.before args0 about1) = true := by decide +kernel
set_option maxRecDepth 65536 in
theorem w_t5 : ((((words1.drop 24).drop 24).drop 24).drop 24).all (fun c => isCode c || c.before args0 about1) = true := by decide +kernel
theorem w_tables : (allAtoms (Jvm.Cond.code x code maxLocals ret :: tables_1)).before args0 about1 = true := by
  rw [allAtoms_all]
  show words1.all (fun c => c.before args0 about1) = true
  refine all_split ?_ w_codes
  rw [← List.take_append_drop 24 words1, List.all_append, w_t1, ← List.take_append_drop 24 (words1.drop 24), List.all_append, w_t2, ← List.take_append_drop 24 ((words1.drop 24).drop 24), List.all_append, w_t3, ← List.take_append_drop 24 (((words1.drop 24).drop 24).drop 24), List.all_append, w_t4, w_t5]
  rfl
set_option maxRecDepth 65536 in
theorem w_rest : rest_1_c.before args0 about1 = true := by decide +kernel
set_option maxRecDepth 65536 in
theorem w_case : (Jvm.Cond.and given_1 narrow_1).before args0 about1 = true := by decide +kernel
theorem w_applies : (headSpec (Jvm.Cond.code x code maxLocals ret :: tables_1) room_1).applies x e0.platform about1 = true :=
  (Spec.applies_iff w_frames).mpr ⟨w_running, w_runnable, w_alone, w_named, w_hears, w_ripe, w_room, w_tables⟩
theorem atStart : AtStart classFile x code maxLocals ret World_1 tables_1 room_1 Calls_1 rest_1 Pre_1 launch0 p0 e0 about1 theMethod args0 below0 :=
  ⟨lists_1, trivial, launch0.admits_env _ _ _, launch0.least_env, fairChoices_fair.cas, fairChoices_fair.clock, w_frames, w_args, w_heap, w_applies, trivial, w_rest, w_case⟩
end start1
theorem witness_1 : WitnessClaimed_1 := ⟨start1.p0, start1.e0, start1.about1, start1.theMethod, start1.args0, start1.below0, start1.atStart⟩
end Jvm.Pilot.@@N@@
