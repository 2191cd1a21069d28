import JvmDerived
import JvmDerived.Pilot.@@N@@Statement
import JvmDerived.Pilot.@@N@@Code
set_option linter.unusedVariables false
set_option linter.unusedSimpArgs false

namespace Jvm.OwnW
open Sem ClassFile Op Lib Jvm.Stand Jvm.Free Jvm.LawKit Jvm.RoadKit
/-! THE LAYER: a walk's state is (cells, slots, what is known of the new cells, pc, locals, stack); 'Go' says that from there the body returns with Q. -/
abbrev Fds := List (String × String × String × Value)
abbrev Desc := (String × Fds) ⊕ (FieldType × List Value)
abbrev Mem := List (Addr × Desc)
abbrev Bdy := MethodName × ByteArray × Nat × Option FieldType × Room
abbrev ob (a : Addr) (C : String) (fs : Fds) : Addr × Desc := (a, .inl (C, fs))
abbrev ar (a : Addr) (ty : FieldType) (vs : List Value) : Addr × Desc := (a, .inr (ty, vs))
def Holds (Z : State) (a0 : Array Value) (h : Heap) (a : Addr) : Desc → Prop
  | .inl (C, fs) => Exa Z h a C ∧ (∀ f ∈ fs, Fld Z h a f.1 f.2.1 f.2.2.1 f.2.2.2 ∧ Laid Z a0 C f.1 f.2.1 f.2.2.1 ∧ ∃ ty, parseFieldDescriptor f.2.2.1 = some ty) ∧ (fs.map (·.2.1)).Nodup
  | .inr (ty, vs) => ∃ c : Cell, Arr Z h a c ty ∧ c.slots.toList = vs ∧ (∀ C, ty = .object C → Ovr Z c.cls C)
def Mo (Z : State) (a0 : Array Value) (h0 : Heap) (ds : Mem) (h : Heap) : Prop :=
  Ext h0 h ∧ (∀ q ∈ ds, h0.size ≤ q.1 ∧ Holds Z a0 h q.1 q.2) ∧ ds.Pairwise (fun q r => q.1 ≠ r.1)
section Facts
variable {Z : State} {a0 : Array Value} {h h' h0 : Heap} {a b : Addr} {D D' : Desc} {ds : Mem} {i : Nat} {sl : Nat} {v : Value}
theorem Holds.lt (H : Holds Z a0 h a D) : a < h.size := by
  rcases D with ⟨C, fs⟩ | ⟨ty, vs⟩
  · exact H.1.lt
  · obtain ⟨c, A, -⟩ := H; exact A.lt
theorem Holds.ext (E : Ext h h') (H : Holds Z a0 h a D) : Holds Z a0 h' a D := by
  rcases D with ⟨C, fs⟩ | ⟨ty, vs⟩
  · exact ⟨H.1.ext E, fun f hf => ⟨(H.2.1 f hf).1.ext E, (H.2.1 f hf).2⟩, H.2.2⟩
  · obtain ⟨c, A, r⟩ := H; exact ⟨c, A.ext E, r⟩
theorem Holds.other (W : Wr h h' a sl v) (H : Holds Z a0 h b D) (q : b ≠ a) : Holds Z a0 h' b D := by
  rcases D with ⟨C, fs⟩ | ⟨ty, vs⟩
  · exact ⟨H.1.wr W, fun f hf => ⟨(H.2.1 f hf).1.other W (Or.inl q), (H.2.1 f hf).2⟩, H.2.2⟩
  · obtain ⟨c, A, r⟩ := H; exact ⟨c, A.other W q, r⟩
theorem Holds.frame {as : List Addr} (K : ∀ (x : Addr) (c : Cell), h[x]? = some c → x ∉ as → h'[x]? = some c) (q : a ∉ as) (H : Holds Z a0 h a D) : Holds Z a0 h' a D := by
  rcases D with ⟨C, fs⟩ | ⟨ty, vs⟩
  · obtain ⟨⟨cell, k, h1, r⟩, F, nd⟩ := H
    refine ⟨⟨cell, k, K _ _ h1 q, r⟩, fun f hf => ?_, nd⟩
    obtain ⟨⟨cell, cf, k, i, f', g1, g⟩, L⟩ := F f hf
    exact ⟨⟨cell, cf, k, i, f', K _ _ g1 q, g⟩, L⟩
  · obtain ⟨c, A, r⟩ := H; exact ⟨c, ⟨K _ _ A.1 q, A.2⟩, r⟩
theorem Ext.refl (h : Heap) : Ext h h := ⟨Nat.le_refl _, fun _ _ q => q⟩
theorem Ext.trans {h1 h2 h3 : Heap} (E : Ext h1 h2) (F : Ext h2 h3) : Ext h1 h3 := ⟨Nat.le_trans E.1 F.1, fun x c q => F.2 x c (E.2 x c q)⟩
theorem Mo.start (Z : State) (a0 : Array Value) (h : Heap) : Mo Z a0 h [] h := ⟨Ext.refl h, fun _ q => (nomatch q), List.Pairwise.nil⟩
theorem Mo.ext (M : Mo Z a0 h0 ds h) (E : Ext h h') : Mo Z a0 h0 ds h' := ⟨Ext.trans M.1 E, fun q hq => ⟨(M.2.1 q hq).1, (M.2.1 q hq).2.ext E⟩, M.2.2⟩
theorem Mo.add (M : Mo Z a0 h0 ds h) (E : Ext h h') (H : Holds Z a0 h' h.size D) : Mo Z a0 h0 (ds ++ [(h.size, D)]) h' := by
  have M' := M.ext E
  refine ⟨M'.1, fun q hq => ?_, List.pairwise_append.mpr ⟨M.2.2, List.pairwise_singleton _ _, fun q hq r hr => ?_⟩⟩
  · rcases List.mem_append.mp hq with hq | hq
    · exact M'.2.1 q hq
    · cases List.mem_singleton.mp hq; exact ⟨M.1.1, H⟩
  · cases List.mem_singleton.mp hr
    exact Nat.ne_of_lt (M.2.1 q hq).2.lt
theorem Mo.at (M : Mo Z a0 h0 ds h) (hi : ds[i]? = some (a, D)) : Holds Z a0 h a D := (M.2.1 _ (List.mem_of_getElem? hi)).2
theorem Mo.new (M : Mo Z a0 h0 ds h) (hi : ds[i]? = some (a, D)) : h0.size ≤ a := (M.2.1 _ (List.mem_of_getElem? hi)).1
theorem Mo.ne (M : Mo Z a0 h0 ds h) {j : Nat} (hi : ds[i]? = some (a, D)) (hj : ds[j]? = some (b, D')) (q : i ≠ j) : a ≠ b := by
  obtain ⟨li, ei⟩ := List.getElem?_eq_some_iff.mp hi
  obtain ⟨lj, ej⟩ := List.getElem?_eq_some_iff.mp hj
  have P := List.pairwise_iff_getElem.mp M.2.2
  rcases Nat.lt_or_gt_of_ne q with q | q
  · have := P i j li lj q; rw [ei, ej] at this; exact this
  · have := P j i lj li q; rw [ei, ej] at this; exact this.symm
theorem Mo.exa {C : String} {fs : Fds} (hi : ds[i]? = some (a, .inl (C, fs))) : ∀ h, Mo Z a0 h0 ds h → Exa Z h a C := fun h M => (M.at hi).1
theorem Mo.wr (M : Mo Z a0 h0 ds h) (hi : ds[i]? = some (a, D)) (W : Wr h h' a sl v) (H : Holds Z a0 h' a D') : Mo Z a0 h0 (ds.set i (a, D')) h' := by
  have n0 := M.new hi
  refine ⟨⟨by rw [W.size]; exact M.1.1, fun x c q => ?_⟩, fun q hq => ?_, ?_⟩
  · obtain ⟨c', e1, -, -, -, e5, -⟩ := wr_at W (M.1.2 x c q)
    rw [← e5 (Nat.ne_of_lt (Nat.lt_of_lt_of_le (Array.getElem?_eq_some_iff.mp q).1 n0))]; exact e1
  · obtain ⟨j, hj⟩ := List.getElem?_of_mem hq
    by_cases e : i = j
    · subst e
      rw [List.getElem?_set_self (List.getElem?_eq_some_iff.mp hi).1] at hj
      cases hj; exact ⟨n0, H⟩
    · rw [List.getElem?_set_ne e] at hj
      exact ⟨M.new hj, (M.at hj).other W (M.ne hj hi (Ne.symm e))⟩
  · refine List.pairwise_iff_getElem.mpr fun j j' l1 l2 q => ?_
    rw [List.length_set] at l1 l2
    have P := List.pairwise_iff_getElem.mp M.2.2 j j' l1 l2 q
    obtain ⟨li, ei⟩ := List.getElem?_eq_some_iff.mp hi
    rw [List.getElem_set, List.getElem_set]
    split
    · rename_i e; subst e
      rw [if_neg (Nat.ne_of_lt q)]
      rw [ei] at P; exact P
    · split
      · rename_i e; subst e; rw [ei] at P; exact P
      · exact P
/-- what has been touched since hs: of its cells at most those in 'as' -/
def Tr (hs : Heap) (as : List Addr) (ds : Mem) (h : Heap) : Prop :=
  hs.size ≤ h.size ∧ (∀ (x : Addr) (c : Cell), hs[x]? = some c → x ∉ as → h[x]? = some c) ∧ ∀ q ∈ ds, q.1 ∈ as ∨ hs.size ≤ q.1
theorem Tr.start (h : Heap) (ds : Mem) : Tr h (ds.map (·.1)) ds h := ⟨Nat.le_refl _, fun _ _ q _ => q, fun q hq => Or.inl (List.mem_map.mpr ⟨q, hq, rfl⟩)⟩
section Trs
variable {hs : Heap} {as : List Addr}
theorem Tr.ext (R : Tr hs as ds h) (E : Ext h h') : Tr hs as ds h' := ⟨Nat.le_trans R.1 E.1, fun x c q r => E.2 x c (R.2.1 x c q r), R.2.2⟩
theorem Tr.add (R : Tr hs as ds h) (E : Ext h h') : Tr hs as (ds ++ [(h.size, D)]) h' := ⟨Nat.le_trans R.1 E.1, fun x c q r => E.2 x c (R.2.1 x c q r), fun q hq => by
  rcases List.mem_append.mp hq with hq | hq
  · exact R.2.2 q hq
  · cases List.mem_singleton.mp hq; exact Or.inr R.1⟩
theorem Tr.out (R : Tr hs as ds h) {q : Addr × Desc} (hq : q ∈ ds) {x : Addr} {c : Cell} (hx : hs[x]? = some c) (hn : x ∉ as) : x ≠ q.1 := fun e => by
  rcases R.2.2 q hq with r | r
  · exact hn (e ▸ r)
  · exact absurd (Array.getElem?_eq_some_iff.mp hx).1 (Nat.not_lt.mpr (e ▸ r))
theorem Tr.wr (R : Tr hs as ds h) (hi : ds[i]? = some (a, D)) (W : Wr h h' a sl v) : Tr hs as (ds.set i (a, D')) h' := by
  refine ⟨by rw [W.size]; exact R.1, fun x c q r => ?_, fun q hq => ?_⟩
  · obtain ⟨c', e1, -, -, -, e5, -⟩ := wr_at W (R.2.1 x c q r)
    rw [← e5 (R.out (List.mem_of_getElem? hi) q r)]; exact e1
  · obtain ⟨j, hj⟩ := List.getElem?_of_mem hq
    by_cases e : i = j
    · subst e
      rw [List.getElem?_set_self (List.getElem?_eq_some_iff.mp hi).1] at hj
      cases hj; exact R.2.2 (a, D) (List.mem_of_getElem? hi)
    · rw [List.getElem?_set_ne e] at hj; exact R.2.2 _ (List.mem_of_getElem? hj)
theorem Tr.call {ds' : Mem} (R : Tr hs as ds h) (R' : Tr h (ds.map (·.1)) ds' h') : Tr hs as ds' h' := by
  refine ⟨Nat.le_trans R.1 R'.1, fun x c q r => R'.2.1 x c (R.2.1 x c q r) fun m => ?_, fun q hq => ?_⟩
  · obtain ⟨e, he, rfl⟩ := List.mem_map.mp m; exact R.out he q r rfl
  · rcases R'.2.2 q hq with m | m
    · obtain ⟨e, he, e2⟩ := List.mem_map.mp m; rw [← e2]; exact R.2.2 e he
    · exact Or.inr (Nat.le_trans R.1 m)
end Trs
end Facts
def LaidL (Z : State) (a0 : Array Value) (C : String) : Fds → Prop
  | [] => True
  | f :: r => (Laid Z a0 C f.1 f.2.1 f.2.2.1 ∧ ∃ ty, parseFieldDescriptor f.2.2.1 = some ty ∧ defaultValue ty = f.2.2.2) ∧ LaidL Z a0 C r
theorem LaidL.mem {Z : State} {a0 : Array Value} {C : String} : ∀ {fs : Fds}, LaidL Z a0 C fs → ∀ f ∈ fs, Laid Z a0 C f.1 f.2.1 f.2.2.1 ∧ ∃ ty, parseFieldDescriptor f.2.2.1 = some ty ∧ defaultValue ty = f.2.2.2
  | [], _, _, hf => (nomatch hf)
  | g :: r, H, f, hf => by
    rcases List.mem_cons.mp hf with rfl | hf
    · exact H.1
    · exact LaidL.mem H.2 f hf
theorem wd {ws : List Jvm.Cond} {a0 : Array Value} {Z : State} (hw : ∀ d ∈ ws, d.before a0 Z = true) (i : Nat) {d : Jvm.Cond} (h : ws[i]? = some d) : d.before a0 Z = true := hw d (List.mem_of_getElem? h)
def Cx (B : Bdy) (Z : State) (p : Program) (s : State) (m : MethodId) (meth : Method) (c : Code) : Prop :=
  p.tables.exec = Jvm.exec ∧ Z.Warmed39 s.vm ∧ c.code = B.2.1 ∧ c.maxLocals = B.2.2.1 ∧ s.vm.findClass B.1.cls = some m.cls ∧ meth.sig.returnType = B.2.2.2.1 ∧ meth.locks = false ∧ meth.name = B.1.name
def Ends (B : Bdy) (Z : State) (a0 : Array Value) (h0 : Heap) (hs : Heap) (as : List Addr) (Q : Option Value → Mem → Prop) (p : Program) (e : Env) (below : List Frame) (s u : State) : Prop :=
  ∃ s₂ v L ds, Steps p.tables e below u s₂ ∧ s₂.status = .running ∧ Ended s₂ below (.returned v) ∧ Mo Z a0 h0 ds s₂.heap ∧ Tr hs as ds s₂.heap ∧ Q v ds ∧ Fr h0.size L ∧ FrameEnd s (.returned v) s₂ L B.2.2.2.2.cells B.2.2.2.2.slots
def Go (B : Bdy) (Z : State) (a0 : Array Value) (h0 : Heap) (Q : Option Value → Mem → Prop) (k n : Nat) (ds : Mem) (pc : Nat) (ls : Array Slot) (st : List Value) : Prop :=
  ∀ (p : Program) (l : Launch) (e : Env) (s : State) (m : MethodId) (args : Array Value) (below : List Frame) (meth : Method) (c : Code) (T : State) (locs : List Loc) (hs : Heap) (as : List Addr),
    Cx B Z p s m meth c → Stand p l e B.2.2.2.2 s m args below meth c T locs k n → Fr h0.size locs → Mo Z a0 h0 ds T.heap → Tr hs as ds T.heap → Ends B Z a0 h0 hs as Q p e below s (T.setTop (mkF m pc ls st))
/-- a callee's answer: this value, this memory -/
def Ret (v0 : Option Value) (ds0 : Mem) (v : Option Value) (ds : Mem) : Prop := v = v0 ∧ ds0 = ds
/-- a yes or no, the memory as it was -/
def Qz (P : Prop) (ds0 : Mem) (v : Option Value) (ds : Mem) : Prop := ∃ z : Int32, v = some (.int z) ∧ ds0 = ds ∧ (z.toInt = 1 ∧ P ∨ z.toInt = 0 ∧ ¬ P)
def MQ (Z : State) (a0 : Array Value) (h0 h : Heap) (as : List Addr) (Q : Option Value → Mem → Prop) (v : Option Value) (h' : Heap) (L : List Loc) : Prop := Fr h0.size L ∧ ∃ ds', Mo Z a0 h0 ds' h' ∧ Tr h as ds' h' ∧ Q v ds'
def Met (B : Bdy) (Z : State) (a0 : Array Value) (h0 : Heap) (as : Array Value) (ds : Mem) (Q : Option Value → Mem → Prop) : Prop :=
  ∀ (l : Launch) (ws : List Jvm.Cond) (h : Heap), Mo Z a0 h0 ds h → MetFree l B.1 (head1 (Jvm.Cond.code B.1 B.2.1 B.2.2.1 B.2.2.2.1 :: ws) B.2.2.2.2) (fun a U => a = as ∧ Z.Warmed39 U.vm ∧ U.heap = h) (fun _ _ _ _ _ => True)
    (fun _ U o U' => ∃ v L, o = .returned v ∧ MQ Z a0 h0 h (ds.map (·.1)) Q v U'.heap L ∧ FrameEnd U o U' L B.2.2.2.2.cells B.2.2.2.2.slots)
section Start
variable {args : Array Value} {s : State} {t : Term}
theorem eqI_v {k : Int32} {idx : List Nat} (h : (Jvm.Cond.eq t (.int k)).value args s none s idx = some true) : t.eval args s none idx s = some (.int k) := by
  have e : (Term.int k).eval args s none idx s = some (.int k) := rfl
  simp only [Cond.value, e] at h
  cases ht : t.eval args s none idx s with
  | none => simp [ht] at h
  | some x => cases x <;> simp [ht] at h ⊢; exact h
theorem eqJ_v {k : Int64} {idx : List Nat} (h : (Jvm.Cond.eq t (.long k)).value args s none s idx = some true) : t.eval args s none idx s = some (.long k) := by
  have e : (Term.long k).eval args s none idx s = some (.long k) := rfl
  simp only [Cond.value, e] at h
  cases ht : t.eval args s none idx s with
  | none => simp [ht] at h
  | some x => cases x <;> simp [ht] at h ⊢; exact h
theorem elem_ix {a : Addr} {cl : Cell} {i : Nat} (ev : ∀ idx, t.eval args s none idx s = some (.ref a)) (ha : s.arrayAt? a = some cl) (hi : i < 2 ^ 31) : (Term.elem t (.index 0)).eval args s none [i] s = cl.slots[i]? := by
  have q : i.toInt32.toInt = i := len_toInt hi
  have q2 : i.toInt32.toNatClampNeg = i := by simp only [Int32.toNatClampNeg, q]; rfl
  rw [elem_f (ev _) (j := i.toInt32) rfl ha (by rw [Int32.lt_iff_toInt_lt, q]; exact Int.not_lt.mpr (Int.natCast_nonneg i)), q2]
theorem eq_ix {a : Addr} {cl : Cell} {i : Nat} {v : Int32} (ev : ∀ idx, t.eval args s none idx s = some (.ref a)) (ha : s.arrayAt? a = some cl) (hi : i < 2 ^ 31) (h : (Jvm.Cond.eq (.elem t (.index 0)) (.int v)).value args s none s [i] = some true) : cl.slots[i]? = some (.int v) :=
  (elem_ix ev ha hi).symm.trans (eqI_v h)
theorem or_ix {G X : Jvm.Cond} {P : Prop} [Decidable P] {i : Nat} (h : (Jvm.Cond.or G X).value args s none s [i] = some true) (hG : G.value args s none s [i] = some (decide P)) (hp : ¬ P) : X.value args s none s [i] = some true := by
  rwa [Cond.or_of_right (nay hG hp)] at h
theorem le_ix {i : Nat} {k : Int32} : (Jvm.Cond.le (.int k) (.index 0)).value args s none s [i] = some (decide (k ≤ i.toInt32)) := by simp [Cond.value, Term.eval]
theorem lt_ix {i : Nat} {k : Int32} : (Jvm.Cond.lt (.index 0) (.int k)).value args s none s [i] = some (decide (i.toInt32 < k)) := by simp [Cond.value, Term.eval]
theorem one_ix {a : Addr} {cl : Cell} {k v : Int32} {i : Nat} (ev : t.eval args s none [] s = some (.ref a)) (hc : s.heap[a]? = some cl) (hi : k.toNatClampNeg = i) (h : (Jvm.Cond.eq (.elem t (.int k)) (.int v)).value args s none s [] = some true) : cl.slots[i]? = some (.int v) := by
  have q := (elem_in (eqI_v h) ev rfl hc).2
  rwa [hi] at q
theorem oneJ_ix {a : Addr} {cl : Cell} {k : Int32} {v : Int64} {i : Nat} (ev : t.eval args s none [] s = some (.ref a)) (hc : s.heap[a]? = some cl) (hi : k.toNatClampNeg = i) (h : (Jvm.Cond.eq (.elem t (.int k)) (.long v)).value args s none s [] = some true) : cl.slots[i]? = some (.long v) := by
  have q := (elem_in (eqJ_v h) ev rfl hc).2
  rwa [hi] at q
theorem len_ix {a : Addr} {cl : Cell} {k : Int32} (ev : t.eval args s none [] s = some (.ref a)) (ha : s.arrayAt? a = some cl) (hk : ¬ k < 0) (h : (Jvm.Cond.eq (.length t) (.int k)).value args s none s [] = some true) : cl.slots.size = k.toNatClampNeg ∧ cl.slots.size < 2 ^ 31 := by
  have q := eqI_v h
  simp only [Term.eval, ev, ha, Option.bind_eq_bind, Option.bind_some] at q
  split at q
  · rename_i hl
    have e : cl.slots.size.toInt32 = k := by simpa using q
    have l : cl.slots.size < 2 ^ 31 := by simpa using hl
    refine ⟨?_, l⟩
    rw [← e]; simp only [Int32.toNatClampNeg, len_toInt l]; rfl
  · simp at q
end Start
section Core
variable {B : Bdy} {Z : State} {a0 : Array Value} {h0 : Heap} {Q : Option Value → Mem → Prop} {k n : Nat} {ds : Mem} {pc : Nat} {ls : Array Slot} {st : List Value}
theorem Ends.back {hs : Heap} {as : List Addr} {p : Program} {e : Env} {below : List Frame} {s u u' : State} (F : Ends B Z a0 h0 hs as Q p e below s u') (hst : ∀ t, Steps p.tables e below u' t → Steps p.tables e below u t) : Ends B Z a0 h0 hs as Q p e below s u := by
  obtain ⟨s₂, v, L, ds, h1, r⟩ := F; exact ⟨s₂, v, L, ds, hst _ h1, r⟩
theorem Go.step {pc' : Nat} {ls' : Array Slot} {st' : List Value} (H : Go B Z a0 h0 Q k n ds pc' ls' st')
    (hs : ∀ {p : Program} {l : Launch} {e : Env} {s : State} {m : MethodId} {args : Array Value} {below : List Frame} {meth : Method} {c : Code} {T : State} {locs : List Loc}, Cx B Z p s m meth c → Stand p l e B.2.2.2.2 s m args below meth c T locs k n → Mo Z a0 h0 ds T.heap → ∀ t, Steps p.tables e below (T.setTop (mkF m pc' ls' st')) t → Steps p.tables e below (T.setTop (mkF m pc ls st)) t) :
    Go B Z a0 h0 Q k n ds pc ls st := fun p l e s m args below meth c T locs h1 as C X N M R => (H p l e s m args below meth c T locs h1 as C X N M R).back (hs C X M)
theorem Go.mono {Q' : Option Value → Mem → Prop} (H : Go B Z a0 h0 Q k n ds pc ls st) (hq : ∀ v ds', Q v ds' → Q' v ds') : Go B Z a0 h0 Q' k n ds pc ls st := fun p l e s m args below meth c T locs hs as C X N M R => by
  obtain ⟨s₂, v, L, ds', h1, h2, h3, h4, h4', h5, r⟩ := H p l e s m args below meth c T locs hs as C X N M R
  exact ⟨s₂, v, L, ds', h1, h2, h3, h4, h4', hq _ _ h5, r⟩
/-- what holds of every heap that the memory describes may be used -/
theorem Go.know {P : Prop} (hP : ∀ h, Mo Z a0 h0 ds h → P) (H : P → Go B Z a0 h0 Q k n ds pc ls st) : Go B Z a0 h0 Q k n ds pc ls st := fun p l e s m args below meth c T locs hs as C X N M R => H (hP _ M) p l e s m args below meth c T locs hs as C X N M R
theorem Go.more {k' n' : Nat} (H : Go B Z a0 h0 Q k' n' ds pc ls st) (hk : k ≤ k') (hn : n ≤ n') : Go B Z a0 h0 Q k n ds pc ls st := fun p l e s m args below meth c T locs hs as C X N M R => H p l e s m args below meth c T locs hs as C (X.more hk hn) N M R
theorem Go.sub {ds' : Mem} (hs : List.Sublist ds' ds) (H : Go B Z a0 h0 Q k n ds' pc ls st) : Go B Z a0 h0 Q k n ds pc ls st := fun p l e s m args below meth c T locs h1 as C X N M R =>
  H p l e s m args below meth c T locs h1 as C X N ⟨M.1, fun q hq => M.2.1 q (hs.subset hq), M.2.2.sublist hs⟩ ⟨R.1, R.2.1, fun q hq => R.2.2 q (hs.subset hq)⟩
theorem Mo.perm {ds' : Mem} {h : Heap} (hp : List.Perm ds' ds) (M : Mo Z a0 h0 ds h) : Mo Z a0 h0 ds' h := ⟨M.1, fun q hq => M.2.1 q (hp.mem_iff.mp hq), (hp.pairwise_iff (fun {a b} q => Ne.symm q)).mpr M.2.2⟩
theorem Go.perm {ds' : Mem} (hp : List.Perm ds' ds) (H : Go B Z a0 h0 Q k n ds' pc ls st) : Go B Z a0 h0 Q k n ds pc ls st := fun p l e s m args below meth c T locs hs as C X N M R =>
  H p l e s m args below meth c T locs hs as C X N (M.perm hp) ⟨R.1, R.2.1, fun q hq => R.2.2 q (hp.mem_iff.mp hq)⟩
/-- entry i to the front -/
theorem Go.front (i : Nat) (hi : i < ds.length) (H : Go B Z a0 h0 Q k n (ds[i] :: ds.eraseIdx i) pc ls st) : Go B Z a0 h0 Q k n ds pc ls st := Go.perm (by
  have e : ds = ds.take i ++ ds[i] :: ds.drop (i + 1) := by rw [List.getElem_cons_drop, List.take_append_drop]
  rw [List.eraseIdx_eq_take_drop_succ]
  exact (List.perm_middle.symm).trans (by rw [← e])) H
theorem Met.of {as : Array Value} (hp : plainFor B.1 = true) (he : ∀ m, entryFrame m as B.2.2.1 = mkF m 0 ls []) (H : Go B Z a0 h0 Q 0 0 ds 0 ls []) : Met B Z a0 h0 as ds Q := by
  intro l ws h M
  refine MetFree.of_bodySF hp hisR ?_
  intro p e s m args below meth c s₁ Bd hml hP _
  obtain ⟨rfl, hZ, hh⟩ := hP
  have hown : s.vm.findClass B.1.cls = some m.cls := findClass_of_methodNamed Bd.named
  have hnm := (name_of_methodNamed Bd.named Bd.method).1
  have e0 : s₁.heap = h := by rw [← hh, Bd.state]; rfl
  obtain ⟨s₂, v, L, ds', h1, h2, h3, h4, h4', h5, h6, h7⟩ := H p l e s m args below meth c s₁ [] h (ds.map (·.1)) ⟨Bd.exec, hZ, Bd.bytes, hml, hown, Bd.returns, Bd.notSynchronized, hnm⟩ (Stand.of_body Bd) (Fr.nil _) (by rw [e0]; exact M) (by rw [e0]; exact Tr.start h ds)
  exact ⟨s₂, _, castTop (he m) h1, h2, h3, v, L, rfl, ⟨h6, ds', h4, h4', h5⟩, h7⟩
theorem Met.mono {as : Array Value} {Q' : Option Value → Mem → Prop} (H : Met B Z a0 h0 as ds Q) (hq : ∀ v ds', Q v ds' → Q' v ds') : Met B Z a0 h0 as ds Q' := by
  intro l ws h M p e h1 h2 h3 s m args below h4 h5 h6 h7
  obtain ⟨n, o, g1, g2, g3, v, L, g4, ⟨g5, ds', g6, g6', g7⟩, g8⟩ := H l ws h M p e h1 h2 h3 s m args below h4 h5 h6 h7
  exact ⟨n, o, g1, g2, g3, v, L, g4, ⟨g5, ds', g6, g6', hq _ _ g7⟩, g8⟩
/-- the frame rule: what the callee doesn't know it leaves as it is -/
theorem Met.frame {as : Array Value} (rest : Mem) (H : Met B Z a0 h0 as ds Q) : Met B Z a0 h0 as (ds ++ rest) (fun v D => ∃ ds', Q v ds' ∧ D = ds' ++ rest) := by
  intro l ws h M p e h1 h2 h3 s m args below h4 h5 h6 h7
  have M1 : Mo Z a0 h0 ds h := ⟨M.1, fun q hq => M.2.1 q (List.mem_append_left _ hq), (List.pairwise_append.mp M.2.2).1⟩
  obtain ⟨n, o, g1, g2, g3, v, L, g4, ⟨g5, ds', g6, g6', g7⟩, g8⟩ := H l ws h M1 p e h1 h2 h3 s m args below h4 h5 h6 h7
  have nin : ∀ q ∈ rest, q.1 ∉ ds.map (·.1) := fun q hq m => by
    obtain ⟨r, hr, e⟩ := List.mem_map.mp m
    exact (List.pairwise_append.mp M.2.2).2.2 r hr q hq e
  refine ⟨n, o, g1, g2, g3, v, L, g4, ⟨g5, ds' ++ rest, ⟨g6.1, fun q hq => ?_, List.pairwise_append.mpr ⟨g6.2.2, (List.pairwise_append.mp M.2.2).2.1, fun q hq r hr => ?_⟩⟩, ⟨g6'.1, fun x c q r => g6'.2.1 x c q fun m => r ?_, fun q hq => ?_⟩, ds', g7, rfl⟩, g8⟩
  · rcases List.mem_append.mp hq with hq | hq
    · exact g6.2.1 q hq
    · obtain ⟨m1, m2⟩ := M.2.1 q (List.mem_append_right _ hq)
      exact ⟨m1, m2.frame g6'.2.1 (nin q hq)⟩
  · intro e
    rcases g6'.2.2 q hq with m | m
    · exact nin r hr (e ▸ m)
    · exact absurd (M.2.1 r (List.mem_append_right _ hr)).2.lt (Nat.not_lt.mpr (e ▸ m))
  · rw [List.map_append]; exact List.mem_append_left _ m
  · rcases List.mem_append.mp hq with hq | hq
    · rcases g6'.2.2 q hq with m | m
      · exact Or.inl (by rw [List.map_append]; exact List.mem_append_left _ m)
      · exact Or.inr m
    · exact Or.inl (List.mem_map.mpr ⟨q, List.mem_append_right _ hq, rfl⟩)
theorem Met.know {as : Array Value} {P : Prop} (hP : ∀ h, Mo Z a0 h0 ds h → P) (H : P → Met B Z a0 h0 as ds Q) : Met B Z a0 h0 as ds Q := fun l ws h M => H (hP h M) l ws h M
/-! the returns -/
theorem go_end {v : Option Value} (hk : k ≤ B.2.2.2.2.cells) (hn : n ≤ B.2.2.2.2.slots) (hv : B.2.2.2.1 = none → v = none) (HQ : Q v ds)
    (hs : ∀ {p : Program} {l : Launch} {e : Env} {s : State} {m : MethodId} {args : Array Value} {below : List Frame} {meth : Method} {c : Code} {T : State} {locs : List Loc}, Cx B Z p s m meth c → Stand p l e B.2.2.2.2 s m args below meth c T locs k n → ∀ {fs : List Frame}, (∀ (f : JFrame) (acts : List Action), f.method = m → f.locked = none → f.entered = [] → (doReturn e (T.setTop f) acts v).1 = T.setFrames fs) → Steps p.tables e below (T.setTop (mkF m pc ls st)) (T.setFrames fs)) :
    Go B Z a0 h0 Q k n ds pc ls st := by
  intro p l e s m args below meth c T locs h1 as C X N M R
  obtain ⟨fs, hr, hrun, hended, hW, hsame⟩ := X.leave (v := v) (fun q => hv (C.2.2.2.2.2.1.symm.trans q)) C.2.2.2.2.2.2.1
  exact ⟨_, v, locs, ds, hs C X hr, hrun, hended, M, R, HQ, N, ⟨_, rfl⟩, hW, hsame.mono hk hn⟩
theorem go_return (hd : decode B.2.1 pc = .ok (.return_, 1)) (hret : B.2.2.2.1 = none) (hst : st = []) (hk : k ≤ B.2.2.2.2.cells) (hn : n ≤ B.2.2.2.2.slots) (HQ : Q none ds) : Go B Z a0 h0 Q k n ds pc ls st := by
  subst hst
  exact go_end hk hn (fun _ => rfl) HQ fun C X _ hr => X.returnOut C.1 (C.2.2.2.2.2.1.trans hret) (hb C.2.2.1 hd) hr
theorem go_ireturn {z : Int32} {rest : List Value} {t : FieldType} (hd : decode B.2.1 pc = .ok (.ireturn, 1)) (hret : B.2.2.2.1 = some t) (ht : t = .int ∨ t = .boolean ∨ t = .byte ∨ t = .char ∨ t = .short) (hst : st = .int z :: rest) (hz : narrow t (.int z) = .int z) (hk : k ≤ B.2.2.2.2.cells) (hn : n ≤ B.2.2.2.2.slots) (HQ : Q (some (.int z)) ds) : Go B Z a0 h0 Q k n ds pc ls st := by
  subst hst
  exact go_end hk hn (fun q => by rw [hret] at q; cases q) HQ fun C X _ hr => retOut X C.1 (C.2.2.2.2.2.1.trans hret) hz (Or.inl ⟨rfl, ht, _, rfl⟩) (hb C.2.2.1 hd) hr
theorem go_lreturn {z : Int64} {rest : List Value} (hd : decode B.2.1 pc = .ok (.lreturn, 1)) (hret : B.2.2.2.1 = some .long) (hst : st = .long z :: rest) (hk : k ≤ B.2.2.2.2.cells) (hn : n ≤ B.2.2.2.2.slots) (HQ : Q (some (.long z)) ds) : Go B Z a0 h0 Q k n ds pc ls st := by
  subst hst
  exact go_end hk hn (fun q => by rw [hret] at q; cases q) HQ fun C X _ hr => retOut X C.1 (C.2.2.2.2.2.1.trans hret) rfl (Or.inr (Or.inl ⟨rfl, rfl, _, rfl⟩)) (hb C.2.2.1 hd) hr
theorem go_areturn {w : Value} {rest : List Value} {t : FieldType} (hd : decode B.2.1 pc = .ok (.areturn, 1)) (hret : B.2.2.2.1 = some t) (ht : t.isReference = true) (hw : w.isRef = true) (hst : st = w :: rest) (hk : k ≤ B.2.2.2.2.cells) (hn : n ≤ B.2.2.2.2.slots) (HQ : Q (some w) ds) : Go B Z a0 h0 Q k n ds pc ls st := by
  subst hst
  have hz : narrow t w = w := by rcases ref_cases hw with rfl | ⟨x, rfl⟩ <;> cases t <;> rfl
  exact go_end hk hn (fun q => by rw [hret] at q; cases q) HQ fun C X _ hr => retOut X C.1 (C.2.2.2.2.2.1.trans hret) hz (Or.inr (Or.inr (Or.inr (Or.inr ⟨rfl, ht, hw⟩)))) (hb C.2.2.1 hd) hr
/-! branches -/
def cmpP : ClassFile.Cond → Int32 → Int32 → Prop
  | .eq, x, y => x.toInt = y.toInt
  | .ne, x, y => x.toInt ≠ y.toInt
  | .lt, x, y => x.toInt < y.toInt
  | .ge, x, y => y.toInt ≤ x.toInt
  | .gt, x, y => y.toInt < x.toInt
  | .le, x, y => x.toInt ≤ y.toInt
def cmpZ : ClassFile.Cond → Int32 → Prop
  | .eq, x => x.toInt = 0
  | .ne, x => x.toInt ≠ 0
  | .lt, x => x.toInt < 0
  | .ge, x => 0 ≤ x.toInt
  | .gt, x => 0 < x.toInt
  | .le, x => x.toInt ≤ 0
theorem cmpP_iff (cd : ClassFile.Cond) (x y : Int32) : if_icmp.holds cd x y = true ↔ cmpP cd x y := by
  cases cd <;> simp [if_icmp.holds, cmpP, Int32.lt_iff_toInt_lt, Int32.le_iff_toInt_le, Int32.toInt_inj]
theorem cmpZ_iff (cd : ClassFile.Cond) (x : Int32) : ifCond.holds cd x = true ↔ cmpZ cd x := by
  have h0 : (0 : Int32).toInt = 0 := rfl
  cases cd <;> simp only [ifCond.holds, cmpZ, Int32.lt_iff_toInt_lt, Int32.le_iff_toInt_le, ← Int32.toInt_inj, h0, decide_eq_true_eq, beq_iff_eq, bne_iff_ne, ne_eq, gt_iff_lt, ge_iff_le]
theorem go_if {cd : ClassFile.Cond} {x : Int32} {rest : List Value} {o : Int} (q1 q2 : Nat) (hp : pc + 3 = q2) (ho : 0 ≤ (pc : Int) + o) (hq : ((pc : Int) + o).toNat = q1) (hd : decode B.2.1 pc = .ok (.ifCond cd o, 3)) (hst : st = .int x :: rest)
    (H1 : cmpZ cd x → Go B Z a0 h0 Q k n ds q1 ls rest) (H2 : ¬ cmpZ cd x → Go B Z a0 h0 Q k n ds q2 ls rest) : Go B Z a0 h0 Q k n ds pc ls st := by
  subst hst hp
  cases hc : ifCond.holds cd x
  · exact (H2 fun q => by rw [(cmpZ_iff cd x).mpr q] at hc; cases hc).step fun C X _ t hr => XS.ifNo X.here C.1 rfl (hb C.2.2.1 hd) rfl hc hr
  · exact (H1 ((cmpZ_iff cd x).mp hc)).step fun C X _ t hr => XS.ifYes X.here C.1 rfl rfl (hb C.2.2.1 hd) rfl hc ho hq hr
theorem go_icmp {cd : ClassFile.Cond} {x y : Int32} {rest : List Value} {o : Int} (q1 q2 : Nat) (hp : pc + 3 = q2) (ho : 0 ≤ (pc : Int) + o) (hq : ((pc : Int) + o).toNat = q1) (hd : decode B.2.1 pc = .ok (.if_icmp cd o, 3)) (hst : st = .int y :: .int x :: rest)
    (H1 : cmpP cd x y → Go B Z a0 h0 Q k n ds q1 ls rest) (H2 : ¬ cmpP cd x y → Go B Z a0 h0 Q k n ds q2 ls rest) : Go B Z a0 h0 Q k n ds pc ls st := by
  subst hst hp
  cases hc : if_icmp.holds cd x y
  · exact (H2 fun q => by rw [(cmpP_iff cd x y).mpr q] at hc; cases hc).step fun C X _ t hr => XS.icmpNo X.here C.1 rfl (hb C.2.2.1 hd) rfl hc hr
  · exact (H1 ((cmpP_iff cd x y).mp hc)).step fun C X _ t hr => XS.icmpYes X.here C.1 rfl rfl (hb C.2.2.1 hd) rfl hc ho hq hr
def acP : ACond → Value → Value → Prop
  | .eq, x, y => x = y
  | .ne, x, y => x ≠ y
theorem acP_iff (cd : ACond) (x y : Value) : acV cd (decide (x = y)) = true ↔ acP cd x y := by cases cd <;> simp [acV, acP]
theorem go_acmp {cd : ACond} {x y : Value} {rest : List Value} {o : Int} (q1 q2 : Nat) (hp : pc + 3 = q2) (ho : 0 ≤ (pc : Int) + o) (hq : ((pc : Int) + o).toNat = q1) (hd : decode B.2.1 pc = .ok (.if_acmp cd o, 3)) (hst : st = y :: x :: rest) (hx : x.isRef = true) (hy : y.isRef = true)
    (H1 : acP cd x y → Go B Z a0 h0 Q k n ds q1 ls rest) (H2 : ¬ acP cd x y → Go B Z a0 h0 Q k n ds q2 ls rest) : Go B Z a0 h0 Q k n ds pc ls st := by
  subst hst hp
  cases hc : acV cd (decide (x = y))
  · exact (H2 fun q => by rw [(acP_iff cd x y).mpr q] at hc; cases hc).step fun C X _ t hr => RoadKit.acmp X C.1 rfl hx hy rfl (hb C.2.2.1 hd) rfl rfl ho (by rw [hc]; rfl) hr
  · exact (H1 ((acP_iff cd x y).mp hc)).step fun C X _ t hr => RoadKit.acmp X C.1 rfl hx hy rfl (hb C.2.2.1 hd) rfl rfl ho (by rw [hc]; exact hq.symm) hr
theorem go_ifnullY {rest : List Value} {o : Int} (q1 : Nat) (ho : 0 ≤ (pc : Int) + o) (hq : ((pc : Int) + o).toNat = q1) (hd : decode B.2.1 pc = .ok (.ifnull o, 3)) (hst : st = .null :: rest) (H : Go B Z a0 h0 Q k n ds q1 ls rest) : Go B Z a0 h0 Q k n ds pc ls st := by
  subst hst; exact H.step fun C X _ t hr => XS.ifnullYes X.here C.1 rfl rfl (hb C.2.2.1 hd) rfl ho hq hr
theorem go_ifnullN {b : Addr} {rest : List Value} {o : Int} (q2 : Nat) (hp : pc + 3 = q2) (hd : decode B.2.1 pc = .ok (.ifnull o, 3)) (hst : st = .ref b :: rest) (H : Go B Z a0 h0 Q k n ds q2 ls rest) : Go B Z a0 h0 Q k n ds pc ls st := by
  subst hst hp; exact H.step fun C X _ t hr => XS.ifnullNo X.here C.1 rfl (hb C.2.2.1 hd) rfl hr
theorem go_ifnonnullY {b : Addr} {rest : List Value} {o : Int} (q1 : Nat) (ho : 0 ≤ (pc : Int) + o) (hq : ((pc : Int) + o).toNat = q1) (hd : decode B.2.1 pc = .ok (.ifnonnull o, 3)) (hst : st = .ref b :: rest) (H : Go B Z a0 h0 Q k n ds q1 ls rest) : Go B Z a0 h0 Q k n ds pc ls st := by
  subst hst; exact H.step fun C X _ t hr => XS.ifnonnullYes X.here C.1 rfl rfl (hb C.2.2.1 hd) rfl ho hq hr
theorem go_ifnonnullN {rest : List Value} {o : Int} (q2 : Nat) (hp : pc + 3 = q2) (hd : decode B.2.1 pc = .ok (.ifnonnull o, 3)) (hst : st = .null :: rest) (H : Go B Z a0 h0 Q k n ds q2 ls rest) : Go B Z a0 h0 Q k n ds pc ls st := by
  subst hst hp; exact H.step fun C X _ t hr => XS.ifnonnullNo X.here C.1 rfl (hb C.2.2.1 hd) rfl hr
theorem go_goto {o : Int} (q : Nat) (ho : 0 ≤ (pc : Int) + o) (hq : ((pc : Int) + o).toNat = q) (hd : decode B.2.1 pc = .ok (.goto o, 3)) (H : Go B Z a0 h0 Q k n ds q ls st) : Go B Z a0 h0 Q k n ds pc ls st :=
  H.step fun C X _ t hr => XS.goto X.here C.1 rfl rfl (hb C.2.2.1 hd) ho hq hr
/-! constants of the pool -/
theorem go_ldc {idx : Nat} {v : Int32} (q : Nat) (hp : pc + 2 = q) (hd : decode B.2.1 pc = .ok (.ldc idx, 2)) (w : (Jvm.Cond.constant B.1.cls idx v).before a0 Z = true) (H : Go B Z a0 h0 Q k n ds q ls (.int v :: st)) : Go B Z a0 h0 Q k n ds pc ls st := by
  subst hp; exact H.step fun C X _ t hr => X.ldcInt C.1 C.2.2.2.2.1 (mvT C.2.1 w) (g := mkF _ pc ls st) rfl (hb C.2.2.1 hd) t hr
theorem go_ldc2 {idx : Nat} {v : Int64} (q : Nat) (hp : pc + 3 = q) (hd : decode B.2.1 pc = .ok (.ldc2_w idx, 3)) (w : (Jvm.Cond.constantLong B.1.cls idx v).before a0 Z = true) (H : Go B Z a0 h0 Q k n ds q ls (.long v :: st)) : Go B Z a0 h0 Q k n ds pc ls st := by
  subst hp; exact H.step fun C X _ t hr => X.ldc2Long C.1 C.2.2.2.2.1 (mvT C.2.1 w) (g := mkF _ pc ls st) rfl (hb C.2.2.1 hd) t hr
/-! the heap -/
theorem go_new {C : String} {idx sz : Nat} (q : Nat) (hp : pc + 3 = q) (hd : decode B.2.1 pc = .ok (.new idx, 3)) (w : (Jvm.Cond.classLink B.1.cls idx C).before a0 Z = true) (wi : (Jvm.Cond.instantiable C sz).before a0 Z = true) (wz : (Jvm.Cond.initialized C).before a0 Z = true)
    (hk : k + 1 ≤ B.2.2.2.2.cells) (hn : n + sz ≤ B.2.2.2.2.slots) (fs : Fds) (hfs : LaidL Z a0 C fs) (hnd : (fs.map (·.2.1)).Nodup) (H : ∀ a, Go B Z a0 h0 Q (k + 1) (n + sz) (ds ++ [ob a C fs]) q ls (.ref a :: st)) : Go B Z a0 h0 Q k n ds pc ls st := by
  subst hp
  intro p l e s m args below meth c T locs hs as Cc X N M R
  obtain ⟨T', h', X', e', E', A', D', -, st'⟩ := newO X Cc.1 Cc.2.1 Cc.2.2.2.2.1 w wi wz rfl (g := mkF m pc ls st) rfl (hb Cc.2.2.1 hd) hk hn
  refine (H T.heap.size p l e s m args below meth c T' locs hs as Cc X' N ?_ (by rw [e']; exact R.add E')).back st'
  rw [e']
  refine M.add E' ⟨A', fun f hf => ?_, hnd⟩
  obtain ⟨L, ty, h1, h2⟩ := hfs.mem f hf
  exact ⟨h2 ▸ D' L h1, L, ty, h1⟩
theorem go_newarr {aty : ArrayType} {x : Int32} {rest : List Value} (q : Nat) (hp : pc + 2 = q) (hd : decode B.2.1 pc = .ok (.newarray aty, 2)) (hst : st = .int x :: rest) (w : (Jvm.Cond.arrayClass (newarray.typeOf aty)).before a0 Z = true) (hx : ¬ x < 0) (cap : Nat) (hcap : x.toNatClampNeg ≤ cap) (hbb : cap * 8 ≤ 536870912)
    (hk : k + 1 ≤ B.2.2.2.2.cells) (hn : n + cap ≤ B.2.2.2.2.slots) (H : ∀ a, Go B Z a0 h0 Q (k + 1) (n + cap) (ds ++ [ar a (newarray.typeOf aty) (List.replicate x.toNatClampNeg (defaultValue (newarray.typeOf aty)))]) q ls (.ref a :: rest)) : Go B Z a0 h0 Q k n ds pc ls st := by
  subst hp hst
  intro p l e s m args below meth c T locs hs as Cc X N M R
  obtain ⟨T', h', cA, X', e', E', A', st'⟩ := newP X Cc.1 Cc.2.1 w rfl (g := mkF m pc ls (.int x :: rest)) rfl (hb Cc.2.2.1 hd) rfl hx hcap hbb hk hn
  refine (H T.heap.size p l e s m args below meth c T' locs hs as Cc X' N ?_ (by rw [e']; exact R.add E')).back st'
  rw [e']
  exact M.add E' ⟨_, A', by simp [newA], fun C q => by cases aty <;> cases q⟩
theorem go_anewarr {C : String} {idx : Nat} {x : Int32} {rest : List Value} (q : Nat) (hp : pc + 3 = q) (hd : decode B.2.1 pc = .ok (.anewarray idx, 3)) (hst : st = .int x :: rest) (w : (Jvm.Cond.classLink B.1.cls idx C).before a0 Z = true) (w2 : (Jvm.Cond.arrayOver (.object C)).before a0 Z = true) (hx : ¬ x < 0) (cap : Nat) (hcap : x.toNatClampNeg ≤ cap) (hbb : cap * 8 ≤ 536870912)
    (hk : k + 1 ≤ B.2.2.2.2.cells) (hn : n + cap ≤ B.2.2.2.2.slots) (H : ∀ a, Go B Z a0 h0 Q (k + 1) (n + cap) (ds ++ [ar a (.object C) (List.replicate x.toNatClampNeg .null)]) q ls (.ref a :: rest)) : Go B Z a0 h0 Q k n ds pc ls st := by
  subst hp hst
  intro p l e s m args below meth c T locs hs as Cc X N M R
  obtain ⟨T', h', cA, X', e', E', A', O', st'⟩ := newR X Cc.1 Cc.2.1 Cc.2.2.2.2.1 w w2 rfl (g := mkF m pc ls (.int x :: rest)) rfl (hb Cc.2.2.1 hd) rfl hx hcap hbb hk hn
  refine (H T.heap.size p l e s m args below meth c T' locs hs as Cc X' N ?_ (by rw [e']; exact R.add E')).back st'
  rw [e']
  exact M.add E' ⟨_, A', by simp [newA, defaultValue], fun C' q => by cases q; exact O'⟩
theorem go_getG {a : Addr} {O R0 nm d : String} {v : Value} {idx : Nat} {rest : List Value} (q : Nat) (hp : pc + 3 = q) (hd : decode B.2.1 pc = .ok (.getfield idx, 3)) (hst : st = .ref a :: rest) (w : (Jvm.Cond.fieldLink B.1.cls idx R0 nm d).before a0 Z = true) (via : Via Z R0 O nm d) (hF : ∀ h, Mo Z a0 h0 ds h → Fld Z h a O nm d v)
    (H : Go B Z a0 h0 Q k n ds q ls (v :: rest)) : Go B Z a0 h0 Q k n ds pc ls st := by
  subst hp hst
  intro p l e s m args below meth c T locs hs as Cc X N M R
  obtain ⟨T', X', e', st'⟩ := getF X Cc.1 Cc.2.1 Cc.2.2.2.2.1 (host := "") (Or.inl w) via rfl (hF _ M) (g := mkF m pc ls (.ref a :: rest)) rfl rfl (hb Cc.2.2.1 hd)
  exact (H p l e s m args below meth c T' locs hs as Cc X' N (by rw [e']; exact M) (by rw [e']; exact R)).back st'
theorem go_get {a : Addr} {C O nm d : String} {fs : Fds} {v : Value} {idx : Nat} {rest : List Value} (i j q : Nat) (hp : pc + 3 = q) (hd : decode B.2.1 pc = .ok (.getfield idx, 3)) (hst : st = .ref a :: rest) (hi : ds[i]? = some (ob a C fs)) (hj : fs[j]? = some (O, nm, d, v)) (w : (Jvm.Cond.fieldLink B.1.cls idx O nm d).before a0 Z = true)
    (H : Go B Z a0 h0 Q k n ds q ls (v :: rest)) : Go B Z a0 h0 Q k n ds pc ls st :=
  go_getG q hp hd hst w Via.refl (fun h M => ((M.at hi).2.1 _ (List.mem_of_getElem? hj)).1) H
theorem go_put {a : Addr} {C O nm d : String} {fs : Fds} {v old : Value} {idx kk : Nat} {rest : List Value} {ty : FieldType} (i j q : Nat) (hp : pc + 3 = q) (hd : decode B.2.1 pc = .ok (.putfield idx, 3)) (hst : st = v :: .ref a :: rest) (hi : ds[i]? = some (ob a C fs)) (hj : fs[j]? = some (O, nm, d, old))
    (w : (Jvm.Cond.fieldLink B.1.cls idx O nm d).before a0 Z = true) (L : (Jvm.Cond.lays C O nm d).before a0 Z = true ∨ ((Jvm.Cond.laysFinal C O nm d).before a0 Z = true ∧ B.1.cls = O ∧ B.1.name = "<init>")) (wi : (Jvm.Cond.instantiable C kk).before a0 Z = true)
    (hty : parseFieldDescriptor d = some ty) (hnn : narrow ty v = v) (hf : fits ty v = true) (H : Go B Z a0 h0 Q k n (ds.set i (ob a C (fs.set j (O, nm, d, v)))) q ls rest) : Go B Z a0 h0 Q k n ds pc ls st := by
  subst hp hst
  intro p l e s m args below meth c T locs hs as Cc X N M R
  have HA := M.at hi
  obtain ⟨F, La, -⟩ := HA.2.1 _ (List.mem_of_getElem? hj)
  have hown : s.vm.findClass B.1.cls = some m.cls := Cc.2.2.2.2.1
  obtain ⟨T', h', X', e', W', st'⟩ := putF X Cc.1 Cc.2.1 hown (host := "") (Or.inl w) Via.refl rfl F HA.1 (L.imp id fun q => ⟨q.1, q.2.1, Cc.2.2.2.2.2.2.2.trans q.2.2⟩) wi hty hnn hf (g := mkF m pc ls (v :: .ref a :: rest)) rfl rfl (hb Cc.2.2.1 hd)
  refine (H p l e s m args below meth c T' _ hs as Cc X' (Fr.snoc X' N (M.new hi)) ?_ (by rw [e']; exact R.wr hi W')).back st'
  rw [e']
  refine M.wr hi W' ⟨HA.1.wr W', fun f hf => ?_, ?_⟩
  · obtain ⟨j', hj'⟩ := List.getElem?_of_mem hf
    by_cases e : j = j'
    · subst e
      rw [List.getElem?_set_self (List.getElem?_eq_some_iff.mp hj).1] at hj'
      cases hj'; exact ⟨F.same W', La, ty, hty⟩
    · rw [List.getElem?_set_ne e] at hj'
      obtain ⟨F1, L1, ty1, ht1⟩ := HA.2.1 f (List.mem_of_getElem? hj')
      refine ⟨F1.other W' (Or.inr (slot_ne L1 La (fun q => ?_) ht1 hty)), L1, ty1, ht1⟩
      have P := List.pairwise_iff_getElem.mp HA.2.2
      obtain ⟨l1, e1⟩ := List.getElem?_eq_some_iff.mp hj
      obtain ⟨l2, e2⟩ := List.getElem?_eq_some_iff.mp hj'
      rcases Nat.lt_or_gt_of_ne e with r | r
      · have z := P j j' (by simpa using l1) (by simpa using l2) r
        simp only [List.getElem_map, e1, e2] at z; exact z q.symm
      · have z := P j' j (by simpa using l2) (by simpa using l1) r
        simp only [List.getElem_map, e1, e2] at z; exact z q
  · rw [List.map_set]
    have : (fs.map (·.2.1)).set j nm = fs.map (·.2.1) := by
      apply List.ext_getElem?
      intro t
      by_cases e : j = t
      · subst e; rw [List.getElem?_set_self (by simpa using (List.getElem?_eq_some_iff.mp hj).1)]; simp [hj]
      · rw [List.getElem?_set_ne e]
    show ((fs.map (·.2.1)).set j nm).Nodup
    rw [this]; exact HA.2.2
theorem go_getS {O nm d : String} {v : Value} {idx : Nat} (q : Nat) (hp : pc + 3 = q) (hd : decode B.2.1 pc = .ok (.getstatic idx, 3)) (w : (Jvm.Cond.fieldLink B.1.cls idx O nm d).before a0 Z = true) (F : Sta Z h0 O nm d v) (H : Go B Z a0 h0 Q k n ds q ls (v :: st)) : Go B Z a0 h0 Q k n ds pc ls st := by
  subst hp
  intro p l e s m args below meth c T locs hs as Cc X N M R
  obtain ⟨T', X', e', st'⟩ := getS X Cc.1 Cc.2.1 (host := "") Cc.2.2.2.2.1 w Via.refl rfl (F.ext M.1) (g := mkF m pc ls st) rfl (hb Cc.2.2.1 hd)
  exact (H p l e s m args below meth c T' locs hs as Cc X' N (by rw [e']; exact M) (by rw [e']; exact R)).back st'
/-! arrays -/
theorem Holds.arr {h : Heap} {a : Addr} {ty : FieldType} {vs : List Value} (H : Holds Z a0 h a (.inr (ty, vs))) : ∃ c : Cell, Arr Z h a c ty ∧ c.slots = vs.toArray ∧ (∀ C, ty = .object C → Ovr Z c.cls C) := by
  obtain ⟨c, A, e, r⟩ := H; exact ⟨c, A, by rw [← e], r⟩
theorem inb {c : Cell} {vs : List Value} {j : Int32} {v : Value} (e : c.slots = vs.toArray) (hj : ¬ j < 0) (hv : vs[j.toNatClampNeg]? = some v) : ¬ (j < 0 ∨ c.slots.size ≤ j.toNatClampNeg) ∧ c.slots[j.toNatClampNeg]? = some v := by
  have l1 := (List.getElem?_eq_some_iff.mp hv).1
  rw [e]; exact ⟨fun q => q.elim hj fun q => by simp at q; omega, by simpa using hv⟩
theorem go_alenG {a : Addr} {z : Int32} {ty : FieldType} {rest : List Value} (q : Nat) (hp : pc + 1 = q) (hd : decode B.2.1 pc = .ok (.arraylength, 1)) (hst : st = .ref a :: rest) (hA : ∀ h, Mo Z a0 h0 ds h → ∃ c : Cell, Arr Z h a c ty ∧ c.slots.size.toInt32 = z) (H : Go B Z a0 h0 Q k n ds q ls (.int z :: rest)) : Go B Z a0 h0 Q k n ds pc ls st := by
  subst hp hst
  refine H.step fun C X M t hr => ?_
  obtain ⟨cl, A, e⟩ := hA _ M
  exact X.arraylength C.1 A.1 (State.isArrayOf_alike C.2.1.alike A.2.1) (g := mkF _ pc ls (.ref a :: rest)) rfl rfl (hb C.2.2.1 hd) t (by rw [e]; exact hr)
theorem go_alen {a : Addr} {ty : FieldType} {vs : List Value} {rest : List Value} (i q : Nat) (hp : pc + 1 = q) (hd : decode B.2.1 pc = .ok (.arraylength, 1)) (hst : st = .ref a :: rest) (hi : ds[i]? = some (ar a ty vs)) (H : Go B Z a0 h0 Q k n ds q ls (.int vs.length.toInt32 :: rest)) : Go B Z a0 h0 Q k n ds pc ls st :=
  go_alenG q hp hd hst (fun h M => by obtain ⟨c, A, e, -⟩ := (M.at hi).arr; exact ⟨c, A, by rw [e]; simp⟩) H
def El (Z : State) (h : Heap) (a : Addr) (ty : FieldType) (j : Int32) (v : Value) : Prop := ∃ c : Cell, Arr Z h a c ty ∧ ¬ (j < 0 ∨ c.slots.size ≤ j.toNatClampNeg) ∧ c.slots[j.toNatClampNeg]? = some v
theorem El.ext {h h' : Heap} {a : Addr} {ty : FieldType} {j : Int32} {v : Value} (E : Ext h h') (F : El Z h a ty j v) : El Z h' a ty j v := by obtain ⟨c, A, r⟩ := F; exact ⟨c, A.ext E, r⟩
theorem Mo.el {a : Addr} {ty : FieldType} {vs : List Value} {i : Nat} {j : Int32} {v : Value} (hi : ds[i]? = some (ar a ty vs)) (hj : ¬ j < 0) (hv : vs[j.toNatClampNeg]? = some v) : ∀ h, Mo Z a0 h0 ds h → El Z h a ty j v := fun h M => by
  obtain ⟨c, A, e, -⟩ := (M.at hi).arr; exact ⟨c, A, inb e hj hv⟩
theorem go_iaload {a : Addr} {j : Int32} {v : Value} {rest : List Value} (q : Nat) (hp : pc + 1 = q) (hd : decode B.2.1 pc = .ok (.iaload, 1)) (hst : st = .int j :: .ref a :: rest) (hA : ∀ h, Mo Z a0 h0 ds h → El Z h a .int j v) (H : Go B Z a0 h0 Q k n ds q ls (v :: rest)) : Go B Z a0 h0 Q k n ds pc ls st := by
  subst hp hst
  refine H.step fun C X M t hr => ?_
  obtain ⟨cl, A, h1, h2⟩ := hA _ M
  exact X.iaload C.1 A.1 (State.isArrayOf_alike C.2.1.alike A.2.1) A.2.2 h1 h2 (g := mkF _ pc ls (.int j :: .ref a :: rest)) rfl rfl (hb C.2.2.1 hd) t hr
theorem go_laload {a : Addr} {j : Int32} {v : Value} {rest : List Value} (q : Nat) (hp : pc + 1 = q) (hd : decode B.2.1 pc = .ok (.laload, 1)) (hst : st = .int j :: .ref a :: rest) (hA : ∀ h, Mo Z a0 h0 ds h → El Z h a .long j v) (H : Go B Z a0 h0 Q k n ds q ls (v :: rest)) : Go B Z a0 h0 Q k n ds pc ls st := by
  subst hp hst
  refine H.step fun C X M t hr => ?_
  obtain ⟨cl, A, h1, h2⟩ := hA _ M
  exact X.laload C.1 A.1 (State.isArrayOf_alike C.2.1.alike A.2.1) A.2.2 h1 h2 (g := mkF _ pc ls (.int j :: .ref a :: rest)) rfl rfl (hb C.2.2.1 hd) t hr
theorem go_caload {a : Addr} {j : Int32} {v : Value} {rest : List Value} (q : Nat) (hp : pc + 1 = q) (hd : decode B.2.1 pc = .ok (.caload, 1)) (hst : st = .int j :: .ref a :: rest) (hA : ∀ h, Mo Z a0 h0 ds h → El Z h a .char j v) (H : Go B Z a0 h0 Q k n ds q ls (v :: rest)) : Go B Z a0 h0 Q k n ds pc ls st := by
  subst hp hst
  refine H.step fun C X M t hr => ?_
  obtain ⟨cl, A, h1, h2⟩ := hA _ M
  exact X.caload C.1 A.1 (State.isArrayOf_alike C.2.1.alike A.2.1) A.2.2 h1 h2 (g := mkF _ pc ls (.int j :: .ref a :: rest)) rfl rfl (hb C.2.2.1 hd) t hr
theorem go_saload {a : Addr} {j : Int32} {v : Value} {rest : List Value} (q : Nat) (hp : pc + 1 = q) (hd : decode B.2.1 pc = .ok (.saload, 1)) (hst : st = .int j :: .ref a :: rest) (hA : ∀ h, Mo Z a0 h0 ds h → El Z h a .short j v) (H : Go B Z a0 h0 Q k n ds q ls (v :: rest)) : Go B Z a0 h0 Q k n ds pc ls st := by
  subst hp hst
  refine H.step fun C X M t hr => ?_
  obtain ⟨cl, A, h1, h2⟩ := hA _ M
  exact X.saload C.1 A.1 (State.isArrayOf_alike C.2.1.alike A.2.1) A.2.2 h1 h2 (g := mkF _ pc ls (.int j :: .ref a :: rest)) rfl rfl (hb C.2.2.1 hd) t hr
theorem go_baload {a : Addr} {j : Int32} {v : Value} {rest : List Value} (q : Nat) (hp : pc + 1 = q) (hd : decode B.2.1 pc = .ok (.baload, 1)) (hst : st = .int j :: .ref a :: rest) (hA : ∀ h, Mo Z a0 h0 ds h → El Z h a .byte j v) (H : Go B Z a0 h0 Q k n ds q ls (v :: rest)) : Go B Z a0 h0 Q k n ds pc ls st := by
  subst hp hst
  refine H.step fun C X M t hr => ?_
  obtain ⟨cl, A, h1, h2⟩ := hA _ M
  exact X.baloadBytes C.1 A.1 (State.isArrayOf_alike C.2.1.alike A.2.1) A.2.2 h1 h2 (g := mkF _ pc ls (.int j :: .ref a :: rest)) rfl rfl (hb C.2.2.1 hd) t hr
theorem go_zaload {a : Addr} {j : Int32} {v : Value} {rest : List Value} (q : Nat) (hp : pc + 1 = q) (hd : decode B.2.1 pc = .ok (.baload, 1)) (hst : st = .int j :: .ref a :: rest) (hA : ∀ h, Mo Z a0 h0 ds h → El Z h a .boolean j v) (H : Go B Z a0 h0 Q k n ds q ls (v :: rest)) : Go B Z a0 h0 Q k n ds pc ls st := by
  subst hp hst
  refine H.step fun C X M t hr => ?_
  obtain ⟨cl, A, h1, h2⟩ := hA _ M
  exact X.baloadBooleans C.1 A.1 (State.isArrayOf_alike C.2.1.alike A.2.1) A.2.2 h1 h2 (g := mkF _ pc ls (.int j :: .ref a :: rest)) rfl rfl (hb C.2.2.1 hd) t hr
theorem go_aaload {a : Addr} {j : Int32} {v : Value} {ty : FieldType} {rest : List Value} (q : Nat) (hp : pc + 1 = q) (hd : decode B.2.1 pc = .ok (.aaload, 1)) (hst : st = .int j :: .ref a :: rest) (hty : ty.isReference = true) (hA : ∀ h, Mo Z a0 h0 ds h → El Z h a ty j v) (H : Go B Z a0 h0 Q k n ds q ls (v :: rest)) : Go B Z a0 h0 Q k n ds pc ls st := by
  subst hp hst
  refine H.step fun C X M t hr => ?_
  obtain ⟨cl, A, h1, h2⟩ := hA _ M
  exact X.aaload C.1 A.1 (State.isArrayOf_alike C.2.1.alike A.2.1) hty A.2.2 h1 h2 (g := mkF _ pc ls (.int j :: .ref a :: rest)) rfl rfl (hb C.2.2.1 hd) t hr
theorem Holds.set {h h' : Heap} {a : Addr} {ty : FieldType} {vs : List Value} {c : Cell} {j : Int32} {v : Value} (A : Arr Z h a c ty) (e : c.slots = vs.toArray) (O : ∀ C, ty = .object C → Ovr Z c.cls C) (W : Wr h h' a j.toNatClampNeg v) : Holds Z a0 h' a (.inr (ty, vs.set j.toNatClampNeg v)) :=
  ⟨_, A.same W, by simp [Cell.setSlot, e], O⟩
theorem go_iastore {a : Addr} {j : Int32} {x : Int32} {vs rest : List Value} (i q : Nat) (hp : pc + 1 = q) (hd : decode B.2.1 pc = .ok (.iastore, 1)) (hst : st = .int x :: .int j :: .ref a :: rest) (hi : ds[i]? = some (ar a .int vs)) (hj : ¬ j < 0) (hl : j.toNatClampNeg < vs.length) (H : Go B Z a0 h0 Q k n (ds.set i (ar a .int (vs.set j.toNatClampNeg (.int x)))) q ls rest) : Go B Z a0 h0 Q k n ds pc ls st := by
  subst hp hst
  intro p l e s m args below meth c T locs hs as Cc X N M R
  obtain ⟨cl, A, ee, O⟩ := (M.at hi).arr
  obtain ⟨T', h', X', e', W', st'⟩ := stI X Cc.1 Cc.2.1 rfl A (inb ee hj (List.getElem?_eq_getElem hl)).1 (g := mkF m pc ls (.int x :: .int j :: .ref a :: rest)) rfl rfl (hb Cc.2.2.1 hd)
  refine (H p l e s m args below meth c T' _ hs as Cc X' (Fr.snoc X' N (M.new hi)) ?_ (by rw [e']; exact R.wr hi W')).back st'
  rw [e']; exact M.wr hi W' (Holds.set A ee O W')
theorem go_lastore {a : Addr} {j : Int32} {x : Int64} {vs rest : List Value} (i q : Nat) (hp : pc + 1 = q) (hd : decode B.2.1 pc = .ok (.lastore, 1)) (hst : st = .long x :: .int j :: .ref a :: rest) (hi : ds[i]? = some (ar a .long vs)) (hj : ¬ j < 0) (hl : j.toNatClampNeg < vs.length) (H : Go B Z a0 h0 Q k n (ds.set i (ar a .long (vs.set j.toNatClampNeg (.long x)))) q ls rest) : Go B Z a0 h0 Q k n ds pc ls st := by
  subst hp hst
  intro p l e s m args below meth c T locs hs as Cc X N M R
  obtain ⟨cl, A, ee, O⟩ := (M.at hi).arr
  obtain ⟨T', h', X', e', W', st'⟩ := stJ X Cc.1 Cc.2.1 rfl A (inb ee hj (List.getElem?_eq_getElem hl)).1 (g := mkF m pc ls (.long x :: .int j :: .ref a :: rest)) rfl rfl (hb Cc.2.2.1 hd)
  refine (H p l e s m args below meth c T' _ hs as Cc X' (Fr.snoc X' N (M.new hi)) ?_ (by rw [e']; exact R.wr hi W')).back st'
  rw [e']; exact M.wr hi W' (Holds.set A ee O W')
theorem go_castore {a : Addr} {j : Int32} {x : Int32} {vs rest : List Value} (i q : Nat) (hp : pc + 1 = q) (hd : decode B.2.1 pc = .ok (.castore, 1)) (hst : st = .int x :: .int j :: .ref a :: rest) (hi : ds[i]? = some (ar a .char vs)) (hj : ¬ j < 0) (hl : j.toNatClampNeg < vs.length) (H : Go B Z a0 h0 Q k n (ds.set i (ar a .char (vs.set j.toNatClampNeg (.int (nar .char x))))) q ls rest) : Go B Z a0 h0 Q k n ds pc ls st := by
  subst hp hst
  intro p l e s m args below meth c T locs hs as Cc X N M R
  obtain ⟨cl, A, ee, O⟩ := (M.at hi).arr
  obtain ⟨T', h', X', e', W', st'⟩ := stC X Cc.1 Cc.2.1 rfl A (inb ee hj (List.getElem?_eq_getElem hl)).1 (g := mkF m pc ls (.int x :: .int j :: .ref a :: rest)) rfl rfl (hb Cc.2.2.1 hd)
  refine (H p l e s m args below meth c T' _ hs as Cc X' (Fr.snoc X' N (M.new hi)) ?_ (by rw [e']; exact R.wr hi W')).back st'
  rw [e']; exact M.wr hi W' (Holds.set A ee O W')
theorem go_sastore {a : Addr} {j : Int32} {x : Int32} {vs rest : List Value} (i q : Nat) (hp : pc + 1 = q) (hd : decode B.2.1 pc = .ok (.sastore, 1)) (hst : st = .int x :: .int j :: .ref a :: rest) (hi : ds[i]? = some (ar a .short vs)) (hj : ¬ j < 0) (hl : j.toNatClampNeg < vs.length) (H : Go B Z a0 h0 Q k n (ds.set i (ar a .short (vs.set j.toNatClampNeg (.int (nar .short x))))) q ls rest) : Go B Z a0 h0 Q k n ds pc ls st := by
  subst hp hst
  intro p l e s m args below meth c T locs hs as Cc X N M R
  obtain ⟨cl, A, ee, O⟩ := (M.at hi).arr
  obtain ⟨T', h', X', e', W', st'⟩ := stS X Cc.1 Cc.2.1 rfl A (inb ee hj (List.getElem?_eq_getElem hl)).1 (g := mkF m pc ls (.int x :: .int j :: .ref a :: rest)) rfl rfl (hb Cc.2.2.1 hd)
  refine (H p l e s m args below meth c T' _ hs as Cc X' (Fr.snoc X' N (M.new hi)) ?_ (by rw [e']; exact R.wr hi W')).back st'
  rw [e']; exact M.wr hi W' (Holds.set A ee O W')
theorem go_bastore {a : Addr} {j : Int32} {x : Int32} {vs rest : List Value} (i q : Nat) (hp : pc + 1 = q) (hd : decode B.2.1 pc = .ok (.bastore, 1)) (hst : st = .int x :: .int j :: .ref a :: rest) (hi : ds[i]? = some (ar a .byte vs)) (hj : ¬ j < 0) (hl : j.toNatClampNeg < vs.length) (H : Go B Z a0 h0 Q k n (ds.set i (ar a .byte (vs.set j.toNatClampNeg (.int (nar .byte x))))) q ls rest) : Go B Z a0 h0 Q k n ds pc ls st := by
  subst hp hst
  intro p l e s m args below meth c T locs hs as Cc X N M R
  obtain ⟨cl, A, ee, O⟩ := (M.at hi).arr
  obtain ⟨T', h', X', e', W', st'⟩ := stB X Cc.1 Cc.2.1 rfl A (inb ee hj (List.getElem?_eq_getElem hl)).1 (g := mkF m pc ls (.int x :: .int j :: .ref a :: rest)) rfl rfl (hb Cc.2.2.1 hd)
  refine (H p l e s m args below meth c T' _ hs as Cc X' (Fr.snoc X' N (M.new hi)) ?_ (by rw [e']; exact R.wr hi W')).back st'
  rw [e']; exact M.wr hi W' (Holds.set A ee O W')
theorem go_zastore {a : Addr} {j : Int32} {x : Int32} {vs rest : List Value} (i q : Nat) (hp : pc + 1 = q) (hd : decode B.2.1 pc = .ok (.bastore, 1)) (hst : st = .int x :: .int j :: .ref a :: rest) (hi : ds[i]? = some (ar a .boolean vs)) (hj : ¬ j < 0) (hl : j.toNatClampNeg < vs.length) (H : Go B Z a0 h0 Q k n (ds.set i (ar a .boolean (vs.set j.toNatClampNeg (.int (nar .boolean x))))) q ls rest) : Go B Z a0 h0 Q k n ds pc ls st := by
  subst hp hst
  intro p l e s m args below meth c T locs hs as Cc X N M R
  obtain ⟨cl, A, ee, O⟩ := (M.at hi).arr
  obtain ⟨T', h', X', e', W', st'⟩ := stZ X Cc.1 Cc.2.1 rfl A (inb ee hj (List.getElem?_eq_getElem hl)).1 (g := mkF m pc ls (.int x :: .int j :: .ref a :: rest)) rfl rfl (hb Cc.2.2.1 hd)
  refine (H p l e s m args below meth c T' _ hs as Cc X' (Fr.snoc X' N (M.new hi)) ?_ (by rw [e']; exact R.wr hi W')).back st'
  rw [e']; exact M.wr hi W' (Holds.set A ee O W')
theorem go_aastore {a : Addr} {j : Int32} {v : Value} {ty : FieldType} {vs rest : List Value} (i q : Nat) (hp : pc + 1 = q) (hd : decode B.2.1 pc = .ok (.aastore, 1)) (hst : st = v :: .int j :: .ref a :: rest) (hi : ds[i]? = some (ar a ty vs)) (hty : ty.isReference = true) (hj : ¬ j < 0) (hl : j.toNatClampNeg < vs.length) (hS : ∀ h, Mo Z a0 h0 ds h → Sto Z h a v) (H : Go B Z a0 h0 Q k n (ds.set i (ar a ty (vs.set j.toNatClampNeg v))) q ls rest) : Go B Z a0 h0 Q k n ds pc ls st := by
  subst hp hst
  intro p l e s m args below meth c T locs hs as Cc X N M R
  obtain ⟨cl, A, ee, O⟩ := (M.at hi).arr
  obtain ⟨T', h', X', e', W', st'⟩ := stR X Cc.1 Cc.2.1 rfl A (inb ee hj (List.getElem?_eq_getElem hl)).1 hty (hS _ M) (g := mkF m pc ls (v :: .int j :: .ref a :: rest)) rfl rfl (hb Cc.2.2.1 hd)
  refine (H p l e s m args below meth c T' _ hs as Cc X' (Fr.snoc X' N (M.new hi)) ?_ (by rw [e']; exact R.wr hi W')).back st'
  rw [e']; exact M.wr hi W' (Holds.set A ee O W')
theorem Mo.sto {a y : Addr} {C : String} {vs : List Value} {i : Nat} (hi : ds[i]? = some (ar a (.object C) vs)) (hI : ∀ h, Mo Z a0 h0 ds h → Ins Z h y C true) : ∀ h, Mo Z a0 h0 ds h → Sto Z h a (.ref y) := fun h M => by
  obtain ⟨c, A, -, O⟩ := (M.at hi).arr; exact Sto.of A (O C rfl) (hI h M)
/-! the plain steps -/
theorem go_iloadN {j : Fin 4} {v : Int32} (q : Nat) (hp : pc + 1 = q) (hd : decode B.2.1 pc = .ok (.iload_n j, 1)) (hl : ls[j.val]? = some (.val (.int v))) (H : Go B Z a0 h0 Q k n ds q ls (.int v :: st)) : Go B Z a0 h0 Q k n ds pc ls st := by
  subst hp; exact H.step fun C X _ t hr => XS.iloadN X.here C.1 rfl (hb C.2.2.1 hd) hl hr
theorem go_iload {j : Nat} {v : Int32} (q : Nat) (hp : pc + 2 = q) (hd : decode B.2.1 pc = .ok (.iload j, 2)) (hl : ls[j]? = some (.val (.int v))) (H : Go B Z a0 h0 Q k n ds q ls (.int v :: st)) : Go B Z a0 h0 Q k n ds pc ls st := by
  subst hp; exact H.step fun C X _ t hr => XS.iload X.here C.1 rfl (hb C.2.2.1 hd) hl hr
theorem go_istoreN {j : Fin 4} {x : Int32} {rest : List Value} (l' : Array Slot) (q : Nat) (hp : pc + 1 = q) (hd : decode B.2.1 pc = .ok (.istore_n j, 1)) (hst : st = .int x :: rest) (hl : storeLocals ls j.val (.int x) = some l') (H : Go B Z a0 h0 Q k n ds q l' (rest)) : Go B Z a0 h0 Q k n ds pc ls st := by
  subst hp hst; exact H.step fun C X _ t hr => XS.istoreN X.here C.1 rfl (hb C.2.2.1 hd) rfl hl hr
theorem go_istore {j : Nat} {x : Int32} {rest : List Value} (l' : Array Slot) (q : Nat) (hp : pc + 2 = q) (hd : decode B.2.1 pc = .ok (.istore j, 2)) (hst : st = .int x :: rest) (hl : storeLocals ls j (.int x) = some l') (H : Go B Z a0 h0 Q k n ds q l' (rest)) : Go B Z a0 h0 Q k n ds pc ls st := by
  subst hp hst; exact H.step fun C X _ t hr => XS.istore X.here C.1 rfl (hb C.2.2.1 hd) rfl hl hr
theorem go_lloadN {j : Fin 4} {v : Int64} (q : Nat) (hp : pc + 1 = q) (hd : decode B.2.1 pc = .ok (.lload_n j, 1)) (hl : ls[j.val]? = some (.val (.long v))) (H : Go B Z a0 h0 Q k n ds q ls (.long v :: st)) : Go B Z a0 h0 Q k n ds pc ls st := by
  subst hp; exact H.step fun C X _ t hr => XS.lloadN X.here C.1 rfl (hb C.2.2.1 hd) hl hr
theorem go_lload {j : Nat} {v : Int64} (q : Nat) (hp : pc + 2 = q) (hd : decode B.2.1 pc = .ok (.lload j, 2)) (hl : ls[j]? = some (.val (.long v))) (H : Go B Z a0 h0 Q k n ds q ls (.long v :: st)) : Go B Z a0 h0 Q k n ds pc ls st := by
  subst hp; exact H.step fun C X _ t hr => XS.lload X.here C.1 rfl (hb C.2.2.1 hd) hl hr
theorem go_lstoreN {j : Fin 4} {x : Int64} {rest : List Value} (l' : Array Slot) (q : Nat) (hp : pc + 1 = q) (hd : decode B.2.1 pc = .ok (.lstore_n j, 1)) (hst : st = .long x :: rest) (hl : storeLocals ls j.val (.long x) = some l') (H : Go B Z a0 h0 Q k n ds q l' (rest)) : Go B Z a0 h0 Q k n ds pc ls st := by
  subst hp hst; exact H.step fun C X _ t hr => XS.lstoreN X.here C.1 rfl (hb C.2.2.1 hd) rfl hl hr
theorem go_lstore {j : Nat} {x : Int64} {rest : List Value} (l' : Array Slot) (q : Nat) (hp : pc + 2 = q) (hd : decode B.2.1 pc = .ok (.lstore j, 2)) (hst : st = .long x :: rest) (hl : storeLocals ls j (.long x) = some l') (H : Go B Z a0 h0 Q k n ds q l' (rest)) : Go B Z a0 h0 Q k n ds pc ls st := by
  subst hp hst; exact H.step fun C X _ t hr => XS.lstore X.here C.1 rfl (hb C.2.2.1 hd) rfl hl hr
theorem go_aloadN {j : Fin 4} {v : Value} (q : Nat) (hp : pc + 1 = q) (hd : decode B.2.1 pc = .ok (.aload_n j, 1)) (hl : ls[j.val]? = some (.val v)) (hv : v.isRef = true) (H : Go B Z a0 h0 Q k n ds q ls (v :: st)) : Go B Z a0 h0 Q k n ds pc ls st := by
  subst hp; exact H.step fun C X _ t hr => XS.aloadN X.here C.1 rfl (hb C.2.2.1 hd) hl hv hr
theorem go_aload {j : Nat} {v : Value} (q : Nat) (hp : pc + 2 = q) (hd : decode B.2.1 pc = .ok (.aload j, 2)) (hl : ls[j]? = some (.val v)) (hv : v.isRef = true) (H : Go B Z a0 h0 Q k n ds q ls (v :: st)) : Go B Z a0 h0 Q k n ds pc ls st := by
  subst hp; exact H.step fun C X _ t hr => XS.aload X.here C.1 rfl (hb C.2.2.1 hd) hl hv hr
theorem go_astoreN {j : Fin 4} {x : Value} {rest : List Value} (l' : Array Slot) (q : Nat) (hp : pc + 1 = q) (hd : decode B.2.1 pc = .ok (.astore_n j, 1)) (hst : st = x :: rest) (hv : x.isRef = true) (hl : storeLocals ls j.val x = some l') (H : Go B Z a0 h0 Q k n ds q l' (rest)) : Go B Z a0 h0 Q k n ds pc ls st := by
  subst hp hst; exact H.step fun C X _ t hr => XS.astoreN X.here C.1 rfl (hb C.2.2.1 hd) rfl hv hl hr
theorem go_astore {j : Nat} {x : Value} {rest : List Value} (l' : Array Slot) (q : Nat) (hp : pc + 2 = q) (hd : decode B.2.1 pc = .ok (.astore j, 2)) (hst : st = x :: rest) (hv : x.isRef = true) (hl : storeLocals ls j x = some l') (H : Go B Z a0 h0 Q k n ds q l' (rest)) : Go B Z a0 h0 Q k n ds pc ls st := by
  subst hp hst; exact H.step fun C X _ t hr => XS.astore X.here C.1 rfl (hb C.2.2.1 hd) rfl hv hl hr
theorem go_iconst {i : Int} (v : Int32) (q : Nat) (hp : pc + 1 = q) (hd : decode B.2.1 pc = .ok (.iconst i, 1)) (hv : Int32.ofInt i = v) (H : Go B Z a0 h0 Q k n ds q ls (.int v :: st)) : Go B Z a0 h0 Q k n ds pc ls st := by
  subst hp hv; exact H.step fun C X _ t hr => XS.iconst X.here C.1 rfl (hb C.2.2.1 hd) hr
theorem go_bipush {i : Int} (v : Int32) (q : Nat) (hp : pc + 2 = q) (hd : decode B.2.1 pc = .ok (.bipush i, 2)) (hv : (Int8.ofInt i).toInt32 = v) (H : Go B Z a0 h0 Q k n ds q ls (.int v :: st)) : Go B Z a0 h0 Q k n ds pc ls st := by
  subst hp hv; exact H.step fun C X _ t hr => XS.bipush X.here C.1 rfl (hb C.2.2.1 hd) hr
theorem go_sipush {i : Int} (v : Int32) (q : Nat) (hp : pc + 3 = q) (hd : decode B.2.1 pc = .ok (.sipush i, 3)) (hv : (Int16.ofInt i).toInt32 = v) (H : Go B Z a0 h0 Q k n ds q ls (.int v :: st)) : Go B Z a0 h0 Q k n ds pc ls st := by
  subst hp hv; exact H.step fun C X _ t hr => XS.sipush X.here C.1 rfl (hb C.2.2.1 hd) hr
theorem go_lconst {i : Fin 2} (v : Int64) (q : Nat) (hp : pc + 1 = q) (hd : decode B.2.1 pc = .ok (.lconst i, 1)) (hv : Int64.ofNat i.val = v) (H : Go B Z a0 h0 Q k n ds q ls (.long v :: st)) : Go B Z a0 h0 Q k n ds pc ls st := by
  subst hp hv; exact H.step fun C X _ t hr => XS.lconst X.here C.1 rfl (hb C.2.2.1 hd) hr
theorem go_aconstNull  (q : Nat) (hp : pc + 1 = q) (hd : decode B.2.1 pc = .ok (.aconst_null, 1)) (H : Go B Z a0 h0 Q k n ds q ls (.null :: st)) : Go B Z a0 h0 Q k n ds pc ls st := by
  subst hp; exact H.step fun C X _ t hr => XS.aconstNull X.here C.1 rfl (hb C.2.2.1 hd)  hr
theorem go_iadd {x y : Int32} {rest : List Value} (q : Nat) (hp : pc + 1 = q) (hd : decode B.2.1 pc = .ok (.iadd, 1)) (hst : st = .int y :: .int x :: rest) (H : Go B Z a0 h0 Q k n ds q ls (.int (x + y) :: rest)) : Go B Z a0 h0 Q k n ds pc ls st := by
  subst hp hst; exact H.step fun C X _ t hr => XS.iadd X.here C.1 rfl (hb C.2.2.1 hd) rfl hr
theorem go_isub {x y : Int32} {rest : List Value} (q : Nat) (hp : pc + 1 = q) (hd : decode B.2.1 pc = .ok (.isub, 1)) (hst : st = .int y :: .int x :: rest) (H : Go B Z a0 h0 Q k n ds q ls (.int (x - y) :: rest)) : Go B Z a0 h0 Q k n ds pc ls st := by
  subst hp hst; exact H.step fun C X _ t hr => XS.isub X.here C.1 rfl (hb C.2.2.1 hd) rfl hr
theorem go_imul {x y : Int32} {rest : List Value} (q : Nat) (hp : pc + 1 = q) (hd : decode B.2.1 pc = .ok (.imul, 1)) (hst : st = .int y :: .int x :: rest) (H : Go B Z a0 h0 Q k n ds q ls (.int (x * y) :: rest)) : Go B Z a0 h0 Q k n ds pc ls st := by
  subst hp hst; exact H.step fun C X _ t hr => XS.imul X.here C.1 rfl (hb C.2.2.1 hd) rfl hr
theorem go_iand {x y : Int32} {rest : List Value} (q : Nat) (hp : pc + 1 = q) (hd : decode B.2.1 pc = .ok (.iand, 1)) (hst : st = .int y :: .int x :: rest) (H : Go B Z a0 h0 Q k n ds q ls (.int (x &&& y) :: rest)) : Go B Z a0 h0 Q k n ds pc ls st := by
  subst hp hst; exact H.step fun C X _ t hr => XS.iand X.here C.1 rfl (hb C.2.2.1 hd) rfl hr
theorem go_ior {x y : Int32} {rest : List Value} (q : Nat) (hp : pc + 1 = q) (hd : decode B.2.1 pc = .ok (.ior, 1)) (hst : st = .int y :: .int x :: rest) (H : Go B Z a0 h0 Q k n ds q ls (.int (x ||| y) :: rest)) : Go B Z a0 h0 Q k n ds pc ls st := by
  subst hp hst; exact H.step fun C X _ t hr => XS.ior X.here C.1 rfl (hb C.2.2.1 hd) rfl hr
theorem go_ixor {x y : Int32} {rest : List Value} (q : Nat) (hp : pc + 1 = q) (hd : decode B.2.1 pc = .ok (.ixor, 1)) (hst : st = .int y :: .int x :: rest) (H : Go B Z a0 h0 Q k n ds q ls (.int (x ^^^ y) :: rest)) : Go B Z a0 h0 Q k n ds pc ls st := by
  subst hp hst; exact H.step fun C X _ t hr => XS.ixor X.here C.1 rfl (hb C.2.2.1 hd) rfl hr
theorem go_ishl {x y : Int32} {rest : List Value} (q : Nat) (hp : pc + 1 = q) (hd : decode B.2.1 pc = .ok (.ishl, 1)) (hst : st = .int y :: .int x :: rest) (H : Go B Z a0 h0 Q k n ds q ls (.int (x <<< (y &&& 31)) :: rest)) : Go B Z a0 h0 Q k n ds pc ls st := by
  subst hp hst; exact H.step fun C X _ t hr => XS.ishl X.here C.1 rfl (hb C.2.2.1 hd) rfl hr
theorem go_ishr {x y : Int32} {rest : List Value} (q : Nat) (hp : pc + 1 = q) (hd : decode B.2.1 pc = .ok (.ishr, 1)) (hst : st = .int y :: .int x :: rest) (H : Go B Z a0 h0 Q k n ds q ls (.int (x >>> (y &&& 31)) :: rest)) : Go B Z a0 h0 Q k n ds pc ls st := by
  subst hp hst; exact H.step fun C X _ t hr => XS.ishr X.here C.1 rfl (hb C.2.2.1 hd) rfl hr
theorem go_iushr {x y : Int32} {rest : List Value} (q : Nat) (hp : pc + 1 = q) (hd : decode B.2.1 pc = .ok (.iushr, 1)) (hst : st = .int y :: .int x :: rest) (H : Go B Z a0 h0 Q k n ds q ls (.int ((x.toUInt32 >>> (y &&& 31).toUInt32).toInt32) :: rest)) : Go B Z a0 h0 Q k n ds pc ls st := by
  subst hp hst; exact H.step fun C X _ t hr => XS.iushr X.here C.1 rfl (hb C.2.2.1 hd) rfl hr
theorem go_ladd {x y : Int64} {rest : List Value} (q : Nat) (hp : pc + 1 = q) (hd : decode B.2.1 pc = .ok (.ladd, 1)) (hst : st = .long y :: .long x :: rest) (H : Go B Z a0 h0 Q k n ds q ls (.long (x + y) :: rest)) : Go B Z a0 h0 Q k n ds pc ls st := by
  subst hp hst; exact H.step fun C X _ t hr => XS.ladd X.here C.1 rfl (hb C.2.2.1 hd) rfl hr
theorem go_lsub {x y : Int64} {rest : List Value} (q : Nat) (hp : pc + 1 = q) (hd : decode B.2.1 pc = .ok (.lsub, 1)) (hst : st = .long y :: .long x :: rest) (H : Go B Z a0 h0 Q k n ds q ls (.long (x - y) :: rest)) : Go B Z a0 h0 Q k n ds pc ls st := by
  subst hp hst; exact H.step fun C X _ t hr => XS.lsub X.here C.1 rfl (hb C.2.2.1 hd) rfl hr
theorem go_lmul {x y : Int64} {rest : List Value} (q : Nat) (hp : pc + 1 = q) (hd : decode B.2.1 pc = .ok (.lmul, 1)) (hst : st = .long y :: .long x :: rest) (H : Go B Z a0 h0 Q k n ds q ls (.long (x * y) :: rest)) : Go B Z a0 h0 Q k n ds pc ls st := by
  subst hp hst; exact H.step fun C X _ t hr => XS.lmul X.here C.1 rfl (hb C.2.2.1 hd) rfl hr
theorem go_land {x y : Int64} {rest : List Value} (q : Nat) (hp : pc + 1 = q) (hd : decode B.2.1 pc = .ok (.land, 1)) (hst : st = .long y :: .long x :: rest) (H : Go B Z a0 h0 Q k n ds q ls (.long (x &&& y) :: rest)) : Go B Z a0 h0 Q k n ds pc ls st := by
  subst hp hst; exact H.step fun C X _ t hr => XS.land X.here C.1 rfl (hb C.2.2.1 hd) rfl hr
theorem go_lor {x y : Int64} {rest : List Value} (q : Nat) (hp : pc + 1 = q) (hd : decode B.2.1 pc = .ok (.lor, 1)) (hst : st = .long y :: .long x :: rest) (H : Go B Z a0 h0 Q k n ds q ls (.long (x ||| y) :: rest)) : Go B Z a0 h0 Q k n ds pc ls st := by
  subst hp hst; exact H.step fun C X _ t hr => XS.lor X.here C.1 rfl (hb C.2.2.1 hd) rfl hr
theorem go_lxor {x y : Int64} {rest : List Value} (q : Nat) (hp : pc + 1 = q) (hd : decode B.2.1 pc = .ok (.lxor, 1)) (hst : st = .long y :: .long x :: rest) (H : Go B Z a0 h0 Q k n ds q ls (.long (x ^^^ y) :: rest)) : Go B Z a0 h0 Q k n ds pc ls st := by
  subst hp hst; exact H.step fun C X _ t hr => XS.lxor X.here C.1 rfl (hb C.2.2.1 hd) rfl hr
theorem go_lshl {x : Int64} {y : Int32} {rest : List Value} (q : Nat) (hp : pc + 1 = q) (hd : decode B.2.1 pc = .ok (.lshl, 1)) (hst : st = .int y :: .long x :: rest) (H : Go B Z a0 h0 Q k n ds q ls (.long (x <<< (y &&& 0x3f).toInt64) :: rest)) : Go B Z a0 h0 Q k n ds pc ls st := by
  subst hp hst; exact H.step fun C X _ t hr => XS.lshl X.here C.1 rfl (hb C.2.2.1 hd) rfl hr
theorem go_lshr {x : Int64} {y : Int32} {rest : List Value} (q : Nat) (hp : pc + 1 = q) (hd : decode B.2.1 pc = .ok (.lshr, 1)) (hst : st = .int y :: .long x :: rest) (H : Go B Z a0 h0 Q k n ds q ls (.long (x >>> (y &&& 0x3f).toInt64) :: rest)) : Go B Z a0 h0 Q k n ds pc ls st := by
  subst hp hst; exact H.step fun C X _ t hr => XS.lshr X.here C.1 rfl (hb C.2.2.1 hd) rfl hr
theorem go_lushr {x : Int64} {y : Int32} {rest : List Value} (q : Nat) (hp : pc + 1 = q) (hd : decode B.2.1 pc = .ok (.lushr, 1)) (hst : st = .int y :: .long x :: rest) (H : Go B Z a0 h0 Q k n ds q ls (.long ((x.toUInt64 >>> (y &&& 0x3f).toInt64.toUInt64).toInt64) :: rest)) : Go B Z a0 h0 Q k n ds pc ls st := by
  subst hp hst; exact H.step fun C X _ t hr => XS.lushr X.here C.1 rfl (hb C.2.2.1 hd) rfl hr
theorem go_idiv {x y : Int32} {rest : List Value} (q : Nat) (hp : pc + 1 = q) (hd : decode B.2.1 pc = .ok (.idiv, 1)) (hst : st = .int y :: .int x :: rest) (hy : y ≠ 0) (H : Go B Z a0 h0 Q k n ds q ls (.int (x / y) :: rest)) : Go B Z a0 h0 Q k n ds pc ls st := by
  subst hp hst; exact H.step fun C X _ t hr => XS.idiv X.here C.1 rfl (hb C.2.2.1 hd) rfl hy hr
theorem go_ldiv {x y : Int64} {rest : List Value} (q : Nat) (hp : pc + 1 = q) (hd : decode B.2.1 pc = .ok (.ldiv, 1)) (hst : st = .long y :: .long x :: rest) (hy : y ≠ 0) (H : Go B Z a0 h0 Q k n ds q ls (.long (x / y) :: rest)) : Go B Z a0 h0 Q k n ds pc ls st := by
  subst hp hst; exact H.step fun C X _ t hr => XS.ldiv X.here C.1 rfl (hb C.2.2.1 hd) rfl hy hr
theorem go_irem {x y : Int32} {rest : List Value} (q : Nat) (hp : pc + 1 = q) (hd : decode B.2.1 pc = .ok (.irem, 1)) (hst : st = .int y :: .int x :: rest) (hy : y ≠ 0) (H : Go B Z a0 h0 Q k n ds q ls (.int (x % y) :: rest)) : Go B Z a0 h0 Q k n ds pc ls st := by
  subst hp hst; exact H.step fun C X _ t hr => iremM X C.1 rfl (hb C.2.2.1 hd) rfl hy hr
theorem go_lrem {x y : Int64} {rest : List Value} (q : Nat) (hp : pc + 1 = q) (hd : decode B.2.1 pc = .ok (.lrem, 1)) (hst : st = .long y :: .long x :: rest) (hy : y ≠ 0) (H : Go B Z a0 h0 Q k n ds q ls (.long (x % y) :: rest)) : Go B Z a0 h0 Q k n ds pc ls st := by
  subst hp hst; exact H.step fun C X _ t hr => XS.lrem X.here C.1 rfl (hb C.2.2.1 hd) rfl hy (by rw [lrem_mod]; exact hr)
theorem go_ineg {x : Int32} {rest : List Value} (q : Nat) (hp : pc + 1 = q) (hd : decode B.2.1 pc = .ok (.ineg, 1)) (hst : st = .int x :: rest) (H : Go B Z a0 h0 Q k n ds q ls (.int (-x) :: rest)) : Go B Z a0 h0 Q k n ds pc ls st := by
  subst hp hst; exact H.step fun C X _ t hr => XS.ineg X.here C.1 rfl (hb C.2.2.1 hd) rfl hr
theorem go_lneg {x : Int64} {rest : List Value} (q : Nat) (hp : pc + 1 = q) (hd : decode B.2.1 pc = .ok (.lneg, 1)) (hst : st = .long x :: rest) (H : Go B Z a0 h0 Q k n ds q ls (.long (-x) :: rest)) : Go B Z a0 h0 Q k n ds pc ls st := by
  subst hp hst; exact H.step fun C X _ t hr => XS.lneg X.here C.1 rfl (hb C.2.2.1 hd) rfl hr
theorem go_i2l {x : Int32} {rest : List Value} (q : Nat) (hp : pc + 1 = q) (hd : decode B.2.1 pc = .ok (.i2l, 1)) (hst : st = .int x :: rest) (H : Go B Z a0 h0 Q k n ds q ls (.long x.toInt64 :: rest)) : Go B Z a0 h0 Q k n ds pc ls st := by
  subst hp hst; exact H.step fun C X _ t hr => XS.i2l X.here C.1 rfl (hb C.2.2.1 hd) rfl hr
theorem go_l2i {x : Int64} {rest : List Value} (q : Nat) (hp : pc + 1 = q) (hd : decode B.2.1 pc = .ok (.l2i, 1)) (hst : st = .long x :: rest) (H : Go B Z a0 h0 Q k n ds q ls (.int x.toInt32 :: rest)) : Go B Z a0 h0 Q k n ds pc ls st := by
  subst hp hst; exact H.step fun C X _ t hr => XS.l2i X.here C.1 rfl (hb C.2.2.1 hd) rfl hr
theorem go_i2b {x : Int32} {rest : List Value} (q : Nat) (hp : pc + 1 = q) (hd : decode B.2.1 pc = .ok (.i2b, 1)) (hst : st = .int x :: rest) (H : Go B Z a0 h0 Q k n ds q ls (.int x.toInt8.toInt32 :: rest)) : Go B Z a0 h0 Q k n ds pc ls st := by
  subst hp hst; exact H.step fun C X _ t hr => XS.i2b X.here C.1 rfl (hb C.2.2.1 hd) rfl hr
theorem go_i2c {x : Int32} {rest : List Value} (q : Nat) (hp : pc + 1 = q) (hd : decode B.2.1 pc = .ok (.i2c, 1)) (hst : st = .int x :: rest) (H : Go B Z a0 h0 Q k n ds q ls (.int x.toUInt32.toUInt16.toUInt32.toInt32 :: rest)) : Go B Z a0 h0 Q k n ds pc ls st := by
  subst hp hst; exact H.step fun C X _ t hr => XS.i2c X.here C.1 rfl (hb C.2.2.1 hd) rfl hr
theorem go_i2s {x : Int32} {rest : List Value} (q : Nat) (hp : pc + 1 = q) (hd : decode B.2.1 pc = .ok (.i2s, 1)) (hst : st = .int x :: rest) (H : Go B Z a0 h0 Q k n ds q ls (.int x.toInt16.toInt32 :: rest)) : Go B Z a0 h0 Q k n ds pc ls st := by
  subst hp hst; exact H.step fun C X _ t hr => XS.i2s X.here C.1 rfl (hb C.2.2.1 hd) rfl hr
theorem go_lcmp {x y : Int64} {rest : List Value} (q : Nat) (hp : pc + 1 = q) (hd : decode B.2.1 pc = .ok (.lcmp, 1)) (hst : st = .long y :: .long x :: rest) (H : Go B Z a0 h0 Q k n ds q ls (.int (lcmpW x y) :: rest)) : Go B Z a0 h0 Q k n ds pc ls st := by
  subst hp hst; exact H.step fun C X _ t hr => XS.lcmp X.here C.1 rfl (hb C.2.2.1 hd) rfl hr
theorem go_iinc {j : Nat} {cst : Int} {x : Int32} (l' : Array Slot) (q : Nat) (hp : pc + 3 = q) (hd : decode B.2.1 pc = .ok (.iinc j cst, 3)) (hl : ls[j]? = some (.val (.int x))) (hl' : storeLocals ls j (.int (x + Int32.ofInt cst)) = some l') (H : Go B Z a0 h0 Q k n ds q l' (st)) : Go B Z a0 h0 Q k n ds pc ls st := by
  subst hp; exact H.step fun C X _ t hr => XS.iinc X.here C.1 rfl (hb C.2.2.1 hd) hl hl' hr
theorem go_dup {x : Value} {rest : List Value} (q : Nat) (hp : pc + 1 = q) (hd : decode B.2.1 pc = .ok (.dup, 1)) (hst : st = x :: rest) (hc : x.category = 1) (H : Go B Z a0 h0 Q k n ds q ls (x :: x :: rest)) : Go B Z a0 h0 Q k n ds pc ls st := by
  subst hp hst; exact H.step fun C X _ t hr => XS.dup X.here C.1 rfl (hb C.2.2.1 hd) rfl hc hr
theorem go_pop {x : Value} {rest : List Value} (q : Nat) (hp : pc + 1 = q) (hd : decode B.2.1 pc = .ok (.pop, 1)) (hst : st = x :: rest) (hc : x.category = 1) (H : Go B Z a0 h0 Q k n ds q ls (rest)) : Go B Z a0 h0 Q k n ds pc ls st := by
  subst hp hst; exact H.step fun C X _ t hr => XS.pop X.here C.1 rfl (hb C.2.2.1 hd) rfl hc hr
theorem go_dupX1 {x y : Value} {rest : List Value} (q : Nat) (hp : pc + 1 = q) (hd : decode B.2.1 pc = .ok (.dup_x1, 1)) (hst : st = x :: y :: rest) (hc : x.category = 1) (hc' : y.category = 1) (H : Go B Z a0 h0 Q k n ds q ls (x :: y :: x :: rest)) : Go B Z a0 h0 Q k n ds pc ls st := by
  subst hp hst; exact H.step fun C X _ t hr => XS.dupX1 X.here C.1 rfl (hb C.2.2.1 hd) rfl hc hc' hr
theorem go_swap {x y : Value} {rest : List Value} (q : Nat) (hp : pc + 1 = q) (hd : decode B.2.1 pc = .ok (.swap, 1)) (hst : st = x :: y :: rest) (hc : x.category = 1) (hc' : y.category = 1) (H : Go B Z a0 h0 Q k n ds q ls (y :: x :: rest)) : Go B Z a0 h0 Q k n ds pc ls st := by
  subst hp hst; exact H.step fun C X _ t hr => XS.swap X.here C.1 rfl (hb C.2.2.1 hd) rfl hc hc' hr
theorem go_dup2 {x y : Value} {rest : List Value} (q : Nat) (hp : pc + 1 = q) (hd : decode B.2.1 pc = .ok (.dup2, 1)) (hst : st = x :: y :: rest) (hc : x.category = 1) (hc' : y.category = 1) (H : Go B Z a0 h0 Q k n ds q ls (x :: y :: x :: y :: rest)) : Go B Z a0 h0 Q k n ds pc ls st := by
  subst hp hst; exact H.step fun C X _ t hr => XT.dup2 X.here C.1 rfl (hb C.2.2.1 hd) rfl hc hc' hr
theorem go_dup2L {x : Int64} {rest : List Value} (q : Nat) (hp : pc + 1 = q) (hd : decode B.2.1 pc = .ok (.dup2, 1)) (hst : st = .long x :: rest) (H : Go B Z a0 h0 Q k n ds q ls (.long x :: .long x :: rest)) : Go B Z a0 h0 Q k n ds pc ls st := by
  subst hp hst; exact H.step fun C X _ t hr => XT.dup2L X.here C.1 rfl (hb C.2.2.1 hd) rfl hr
/-! calls: the callee's Met pays -/
theorem go_initObj {a : Addr} {idx : Nat} {rest : List Value} (q : Nat) (hp : pc + 3 = q) (hd : decode B.2.1 pc = .ok (.invokespecial idx, 3)) (hst : st = .ref a :: rest) (w1 : (Jvm.Cond.methodLink B.1.cls idx Lib.objectInit).before a0 Z = true) (w2 : (Jvm.Cond.instanceMethod Lib.objectInit).before a0 Z = true) (w3 : (Jvm.Cond.code Lib.objectInit ⟨#[0xb1]⟩ 1 none).before a0 Z = true)
    (hsz : ls.size = B.2.2.1) (hf : 1 ≤ B.2.2.2.2.frames) (hl : (rest.map fun v => v.category).sum + 12 ≤ B.2.2.2.2.locals) (H : Go B Z a0 h0 Q k n ds q ls rest) : Go B Z a0 h0 Q k n ds pc ls st := by
  subst hp hst
  intro p l e s m args below meth c T locs hs as Cc X N M R
  obtain ⟨T', X', e', st'⟩ := initO X Cc.1 Cc.2.1 Cc.2.2.2.2.1 w1 w2 w3 rfl (g := mkF m pc ls (.ref a :: rest)) rfl (hsz.trans Cc.2.2.2.1.symm) rfl (hb Cc.2.2.1 hd) hf (W := (rest.map fun v => v.category).sum) (by show 2 * 0 + _ ≤ _; omega) hl
  exact (H p l e s m args below meth c T' locs hs as Cc X' N (by rw [e']; exact M) (by rw [e']; exact R)).back st'
variable {y z : MethodName} {bytes : ByteArray} {maxL : Nat} {ret : Option FieldType} {rm : Room} {idx : Nat} {argsL rest : List Value} {ps : List FieldType} {Q' : Option Value → Mem → Prop}
theorem go_callS (q : Nat) (hp : pc + 3 = q) (hd : decode B.2.1 pc = .ok (.invokestatic idx, 3)) (w1 : (Jvm.Cond.methodLink B.1.cls idx y).before a0 Z = true) (w2 : (Jvm.Cond.static y).before a0 Z = true) (w3 : (Jvm.Cond.initialized y.cls).before a0 Z = true) (w4 : (Jvm.Cond.code y bytes maxL ret).before a0 Z = true)
    (hy : y.cls ≠ "java/lang/invoke/MethodHandle" ∧ y.cls ≠ "java/lang/invoke/VarHandle") (hM : Met (y, bytes, maxL, ret, rm) Z a0 h0 argsL.toArray ds Q') (hst : st = argsL.reverse ++ rest) (hpd : parseMethodDescriptor y.desc = some ⟨ps, ret⟩) (hlen : argsL.length = ps.length)
    (hsz : ls.size = B.2.2.1) (W : Nat) (hW : (rest.map fun v => v.category).sum = W) (hf : rm.frames + 1 ≤ B.2.2.2.2.frames) (hl : W + (maxL + 11) + rm.locals ≤ B.2.2.2.2.locals) (hk : k + rm.cells ≤ B.2.2.2.2.cells) (hn : n + rm.slots ≤ B.2.2.2.2.slots)
    (H : ∀ v ds', Q' v ds' → Go B Z a0 h0 Q (k + rm.cells) (n + rm.slots) ds' q ls (v.toList ++ rest)) : Go B Z a0 h0 Q k n ds pc ls st := by
  subst hp hst
  intro p l e s m args below meth c T locs hs as Cc X N M R
  have hZ := Cc.2.1
  obtain ⟨v, _, ⟨T', L', k', n'⟩, -, X', ⟨Lc, hQ, l1, y1, z1⟩, st'⟩ := Jvm.LawKit.callS X Cc.1 (y := y) Cc.2.2.2.2.1 (mvT hZ w1) (mvT hZ w2) (mvT hZ w3) (mvT hZ w4) hy (backOf (W := W) (hM l [] T.heap M) hZ w4 w3 hf hl) (g := mkF m pc ls (argsL.reverse ++ rest)) rfl (hsz.trans Cc.2.2.2.1.symm) (argsL := argsL) (rest := rest) (lenOf hpd hlen) rfl (by show 2 * 0 + _ ≤ _; omega) (hb Cc.2.2.1 hd) (fun _ _ => ⟨rfl, rfl, hk, hn⟩)
  dsimp only [Pt.U, Pt.locs, Pt.cells, Pt.slots] at X' l1 y1 z1 st' hQ
  subst l1 y1 z1
  obtain ⟨N', ds', M', R', hq⟩ := hQ
  exact (H v ds' hq p l e s m args below meth c T' _ hs as Cc X' (Fr.app N N') M' (R.call R')).back st'
theorem go_callI {a : Addr} (q : Nat) (hp : pc + 3 = q) (hd : decode B.2.1 pc = .ok (.invokespecial idx, 3)) (hin : y.name = "<init>") (w1 : (Jvm.Cond.methodLink B.1.cls idx y).before a0 Z = true) (w2 : (Jvm.Cond.instanceMethod y).before a0 Z = true) (w3 : (Jvm.Cond.initialized y.cls).before a0 Z = true) (w4 : (Jvm.Cond.code y bytes maxL none).before a0 Z = true)
    (hy : y.cls ≠ "java/lang/invoke/MethodHandle" ∧ y.cls ≠ "java/lang/invoke/VarHandle") (hM : Met (y, bytes, maxL, none, rm) Z a0 h0 (.ref a :: argsL).toArray ds Q') (hst : st = argsL.reverse ++ .ref a :: rest) (hpd : parseMethodDescriptor y.desc = some ⟨ps, ret⟩) (hlen : argsL.length = ps.length)
    (hsz : ls.size = B.2.2.1) (W : Nat) (hW : (rest.map fun v => v.category).sum = W) (hf : rm.frames + 1 ≤ B.2.2.2.2.frames) (hl : W + (maxL + 11) + rm.locals ≤ B.2.2.2.2.locals) (hk : k + rm.cells ≤ B.2.2.2.2.cells) (hn : n + rm.slots ≤ B.2.2.2.2.slots)
    (H : ∀ v ds', Q' v ds' → Go B Z a0 h0 Q (k + rm.cells) (n + rm.slots) ds' q ls (v.toList ++ rest)) : Go B Z a0 h0 Q k n ds pc ls st := by
  subst hp hst
  intro p l e s m args below meth c T locs hs as Cc X N M R
  have hZ := Cc.2.1
  obtain ⟨v, _, ⟨T', L', k', n'⟩, -, X', ⟨Lc, hQ, l1, y1, z1⟩, st'⟩ := X.specialBack Cc.1 (y := y) hin Cc.2.2.2.2.1 (mvT hZ w1) (mvT hZ w2) (mvT hZ w4) hy (backOf (W := W) (hM l [] T.heap M) hZ w4 w3 hf hl) (g := mkF m pc ls (argsL.reverse ++ .ref a :: rest)) rfl (hsz.trans Cc.2.2.2.1.symm) (Steps.refl _) (a := a) (argsL := argsL) (rest := rest) (lenOf hpd hlen) rfl (by show 2 * 0 + _ ≤ _; omega) (hb Cc.2.2.1 hd) (fun _ _ => ⟨rfl, rfl, hk, hn⟩)
  dsimp only [Pt.U, Pt.locs, Pt.cells, Pt.slots] at X' l1 y1 z1 st' hQ
  subst l1 y1 z1
  obtain ⟨N', ds', M', R', hq⟩ := hQ
  exact (H v ds' hq p l e s m args below meth c T' _ hs as Cc X' (Fr.app N N') M' (R.call R')).back fun t hr => st'.trans hr
theorem go_callVz {a : Addr} {C : String} (q : Nat) (hp : pc + 3 = q) (hd : decode B.2.1 pc = .ok (.invokevirtual idx, 3)) (w1 : (Jvm.Cond.methodLink B.1.cls idx y).before a0 Z = true) (w2 : (Jvm.Cond.declares y).before a0 Z = true) (w3 : (Jvm.Cond.selects C y z).before a0 Z = true) (w4 : (Jvm.Cond.instanceMethod z).before a0 Z = true) (w5 : (Jvm.Cond.initialized z.cls).before a0 Z = true) (w6 : (Jvm.Cond.code z bytes maxL ret).before a0 Z = true)
    (hnf : ∀ s : State, Z.Warmed39 s.vm → NotFace s y) (hy : y.cls ≠ "java/lang/invoke/MethodHandle" ∧ y.cls ≠ "java/lang/invoke/VarHandle") (hE : ∀ h, Mo Z a0 h0 ds h → Exa Z h a C) (hM : Met (z, bytes, maxL, ret, rm) Z a0 h0 (.ref a :: argsL).toArray ds Q') (hst : st = argsL.reverse ++ .ref a :: rest) (hpd : parseMethodDescriptor y.desc = some ⟨ps, ret⟩) (hlen : argsL.length = ps.length)
    (hsz : ls.size = B.2.2.1) (W : Nat) (hW : (rest.map fun v => v.category).sum = W) (hf : rm.frames + 1 ≤ B.2.2.2.2.frames) (hl : W + (maxL + 11) + rm.locals ≤ B.2.2.2.2.locals) (hk : k + rm.cells ≤ B.2.2.2.2.cells) (hn : n + rm.slots ≤ B.2.2.2.2.slots)
    (H : ∀ v ds', Q' v ds' → Go B Z a0 h0 Q (k + rm.cells) (n + rm.slots) ds' q ls (v.toList ++ rest)) : Go B Z a0 h0 Q k n ds pc ls st := by
  subst hp hst
  intro p l e s m args below meth c T locs hs as Cc X N M R
  have hZ := Cc.2.1
  obtain ⟨cq, kq, qa, qb, qc⟩ := isOf hZ rfl (hE _ M)
  obtain ⟨v, _, ⟨T', L', k', n'⟩, -, X', ⟨Lc, hQ, l1, y1, z1⟩, st'⟩ := X.virtualBack Cc.1 (y := y) (z := z) Cc.2.2.2.2.1 (mvT hZ w1) (mvT hZ w2) (hnf _ hZ) (mvT hZ w3) (mvT hZ w4) hy (backOf (W := W) (hM l [] T.heap M) hZ w6 w5 hf hl) qa qc (g := mkF m pc ls (argsL.reverse ++ .ref a :: rest)) rfl (hsz.trans Cc.2.2.2.1.symm) (Steps.refl _) (argsL := argsL) (rest := rest) (lenOf hpd hlen) rfl (by show 2 * 0 + _ ≤ _; omega) (hb Cc.2.2.1 hd) (fun _ _ => ⟨rfl, rfl, hk, hn⟩)
  dsimp only [Pt.U, Pt.locs, Pt.cells, Pt.slots] at X' l1 y1 z1 st' hQ
  subst l1 y1 z1
  obtain ⟨N', ds', M', R', hq⟩ := hQ
  exact (H v ds' hq p l e s m args below meth c T' _ hs as Cc X' (Fr.app N N') M' (R.call R')).back fun t hr => st'.trans hr
theorem go_callV {a : Addr} {C : String} (q : Nat) (hp : pc + 3 = q) (hd : decode B.2.1 pc = .ok (.invokevirtual idx, 3)) (w1 : (Jvm.Cond.methodLink B.1.cls idx y).before a0 Z = true) (w2 : (Jvm.Cond.declares y).before a0 Z = true) (w3 : (Jvm.Cond.selects C y y).before a0 Z = true) (w4 : (Jvm.Cond.instanceMethod y).before a0 Z = true) (w5 : (Jvm.Cond.initialized y.cls).before a0 Z = true) (w6 : (Jvm.Cond.code y bytes maxL ret).before a0 Z = true)
    (hy : y.cls ≠ "java/lang/invoke/MethodHandle" ∧ y.cls ≠ "java/lang/invoke/VarHandle") (hE : ∀ h, Mo Z a0 h0 ds h → Exa Z h a C) (hM : Met (y, bytes, maxL, ret, rm) Z a0 h0 (.ref a :: argsL).toArray ds Q') (hst : st = argsL.reverse ++ .ref a :: rest) (hpd : parseMethodDescriptor y.desc = some ⟨ps, ret⟩) (hlen : argsL.length = ps.length)
    (hsz : ls.size = B.2.2.1) (W : Nat) (hW : (rest.map fun v => v.category).sum = W) (hf : rm.frames + 1 ≤ B.2.2.2.2.frames) (hl : W + (maxL + 11) + rm.locals ≤ B.2.2.2.2.locals) (hk : k + rm.cells ≤ B.2.2.2.2.cells) (hn : n + rm.slots ≤ B.2.2.2.2.slots)
    (H : ∀ v ds', Q' v ds' → Go B Z a0 h0 Q (k + rm.cells) (n + rm.slots) ds' q ls (v.toList ++ rest)) : Go B Z a0 h0 Q k n ds pc ls st :=
  go_callVz q hp hd w1 w2 w3 w4 w5 w6 (fun s hZ => notFace_of_selects (args := #[]) (mvT hZ w3)) hy hE hM hst hpd hlen hsz W hW hf hl hk hn H
theorem go_callVU {a : Addr} {C owner : String} (q : Nat) (hp : pc + 3 = q) (hd : decode B.2.1 pc = .ok (.invokevirtual idx, 3)) (w1 : (Jvm.Cond.methodLink B.1.cls idx y).before a0 Z = true) (w0 : (Jvm.Cond.sameMethod y.cls owner y.name y.desc).before a0 Z = true) (w2 : (Jvm.Cond.declares ⟨owner, y.name, y.desc⟩).before a0 Z = true) (w3 : (Jvm.Cond.selects C y z).before a0 Z = true) (w4 : (Jvm.Cond.instanceMethod z).before a0 Z = true) (w5 : (Jvm.Cond.initialized z.cls).before a0 Z = true) (w6 : (Jvm.Cond.code z bytes maxL ret).before a0 Z = true)
    (hy : owner ≠ "java/lang/invoke/MethodHandle" ∧ owner ≠ "java/lang/invoke/VarHandle") (hE : ∀ h, Mo Z a0 h0 ds h → Exa Z h a C) (hM : Met (z, bytes, maxL, ret, rm) Z a0 h0 (.ref a :: argsL).toArray ds Q') (hst : st = argsL.reverse ++ .ref a :: rest) (hpd : parseMethodDescriptor y.desc = some ⟨ps, ret⟩) (hlen : argsL.length = ps.length)
    (hsz : ls.size = B.2.2.1) (W : Nat) (hW : (rest.map fun v => v.category).sum = W) (hf : rm.frames + 1 ≤ B.2.2.2.2.frames) (hl : W + (maxL + 11) + rm.locals ≤ B.2.2.2.2.locals) (hk : k + rm.cells ≤ B.2.2.2.2.cells) (hn : n + rm.slots ≤ B.2.2.2.2.slots)
    (H : ∀ v ds', Q' v ds' → Go B Z a0 h0 Q (k + rm.cells) (n + rm.slots) ds' q ls (v.toList ++ rest)) : Go B Z a0 h0 Q k n ds pc ls st := by
  subst hp hst
  intro p l e s m args below meth c T locs hs as Cc X N M R
  have hZ := Cc.2.1
  obtain ⟨cq, kq, qa, qb, qc⟩ := isOf hZ rfl (hE _ M)
  obtain ⟨v, _, ⟨T', L', k', n'⟩, -, X', ⟨Lc, hQ, l1, y1, z1⟩, st'⟩ := X.virtualBackUp Cc.1 (x := y) (y := z) Cc.2.2.2.2.1 (mvT hZ w1) (mvT hZ w0) (mvT hZ w2) hy (mvT hZ w3) (mvT hZ w4) (backOf (W := W) (hM l [] T.heap M) hZ w6 w5 hf hl) qa qc (g := mkF m pc ls (argsL.reverse ++ .ref a :: rest)) rfl (hsz.trans Cc.2.2.2.1.symm) (Steps.refl _) (argsL := argsL) (rest := rest) (lenOf hpd hlen) rfl (by show 2 * 0 + _ ≤ _; omega) (hb Cc.2.2.1 hd) (fun _ _ => ⟨rfl, rfl, hk, hn⟩)
  dsimp only [Pt.U, Pt.locs, Pt.cells, Pt.slots] at X' l1 y1 z1 st' hQ
  subst l1 y1 z1
  obtain ⟨N', ds', M', R', hq⟩ := hQ
  exact (H v ds' hq p l e s m args below meth c T' _ hs as Cc X' (Fr.app N N') M' (R.call R')).back fun t hr => st'.trans hr
end Core
end Jvm.OwnW

namespace Jvm.Pilot.@@N@@
open Jvm Jvm.ClassFile Sem Op Lib Jvm.Free Jvm.Stand Jvm.LawKit Jvm.RoadKit Bundle Jvm.OwnW Jvm.Pilot.@@N@@.Jvm.D


theorem and3 (x : Int32) : x &&& 3 = 0 ∨ x &&& 3 = 1 ∨ x &&& 3 = 2 ∨ x &&& 3 = 3 := by
  have h := c_and x (3 : Int32) (by decide)
  have e3 : (3 : Int32).toInt = 3 := rfl
  rw [e3] at h
  have : (x &&& 3).toInt = 0 ∨ (x &&& 3).toInt = 1 ∨ (x &&& 3).toInt = 2 ∨ (x &&& 3).toInt = 3 := by omega
  rcases this with q | q | q | q
  · exact Or.inl (Int32.toInt_inj.mp q)
  · exact Or.inr (Or.inl (Int32.toInt_inj.mp q))
  · exact Or.inr (Or.inr (Or.inl (Int32.toInt_inj.mp q)))
  · exact Or.inr (Or.inr (Or.inr (Int32.toInt_inj.mp q)))
theorem lcmp_self (x : Int64) : (lcmpW x x).toInt = 0 := (c_lcmp x x).2.1 rfl
def lt1 (p w : Int64) : Int64 := if (lcmpW ((p + (1000000000 : Int64)) - w) (0 : Int64)).toInt ≤ 0 then w else p + (1000000000 : Int64)
theorem lt1_pos {p w : Int64} (h : (lcmpW ((p + (1000000000 : Int64)) - w) (0 : Int64)).toInt ≤ 0) : lt1 p w = w := if_pos h
theorem lt1_neg {p w : Int64} (h : ¬ (lcmpW ((p + (1000000000 : Int64)) - w) (0 : Int64)).toInt ≤ 0) : lt1 p w = p + (1000000000 : Int64) := if_neg h
theorem lt1_max (p w : Int64) : lt1 p w = w + (if (lcmpW (0 : Int64) ((p + (1000000000 : Int64)) - w)).toInt < 0 then (p + (1000000000 : Int64)) - w else (0 : Int64)) := by
  have e : w + ((p + (1000000000 : Int64)) - w) = p + (1000000000 : Int64) := by rw [Int64.add_comm, Int64.sub_add_cancel]
  unfold lt1
  generalize ((p + (1000000000 : Int64)) - w) = d at *
  have h1 := c_lcmp d 0
  have h2 := c_lcmp 0 d
  have e0 : (0 : Int64).toInt = 0 := rfl
  rw [e0] at h1 h2
  by_cases q : d.toInt ≤ 0
  · rw [if_pos (by omega), if_neg (by omega), Int64.add_zero]
  · rw [if_neg (by omega), if_pos (by omega), e]

theorem d5_0 : decode jdk_29_method_66_code 0 = .ok (.lload_n 0, 1) := by decide +kernel
theorem d5_1 : decode jdk_29_method_66_code 1 = .ok (.lload_n 2, 1) := by decide +kernel
theorem d5_2 : decode jdk_29_method_66_code 2 = .ok (.lcmp, 1) := by decide +kernel
theorem d5_3 : decode jdk_29_method_66_code 3 = .ok (.ifCond .lt 7, 3) := by decide +kernel
theorem d5_6 : decode jdk_29_method_66_code 6 = .ok (.lload_n 0, 1) := by decide +kernel
theorem d5_7 : decode jdk_29_method_66_code 7 = .ok (.goto 4, 3) := by decide +kernel
theorem d5_10 : decode jdk_29_method_66_code 10 = .ok (.lload_n 2, 1) := by decide +kernel
theorem d5_11 : decode jdk_29_method_66_code 11 = .ok (.lreturn, 1) := by decide +kernel
theorem pn5 : plainFor (⟨"java/lang/Math", "max", "(JJ)J"⟩ : MethodName) = true := by first | (apply plainFor_of_name; simp [plainName, overriddenIn]; done) | decide +kernel
def B5 : Bdy := (⟨"java/lang/Math", "max", "(JJ)J"⟩, jdk_29_method_66_code, 4, (some .long), ({ frames := 0, cells := 0, slots := 0, locals := 0 } : Room))
set_option maxRecDepth 65536 in
set_option maxHeartbeats 4000000 in
theorem m_max (Z : State) (a0 : Array Value) (hw : ∀ d ∈ tables_1, d.before a0 Z = true) (h0 : Heap) (ds : Mem) (q1 q2 : Int64) :
    Met B5 Z a0 h0 #[(.long q1), (.long q2)] ds (Ret (some (.long (if (lcmpW q1 q2).toInt < 0 then q2 else q1))) ds) := by
  refine Met.of pn5 (ls := #[.val (.long q1), .second, .val (.long q2), .second]) (fun m => by first | (simp [entryFrame, mkF, argsToLocals, Value.category, B5]; done) | rfl) ?_
  show Go B5 Z a0 h0 _ 0 0 ds 0 #[.val (.long q1), .second, .val (.long q2), .second] []
  refine go_lloadN 1 rfl d5_0 rfl ?_
  refine go_lloadN 2 rfl d5_1 rfl ?_
  refine go_lcmp 3 rfl d5_2 rfl ?_
  refine go_if 10 6 rfl (by decide) rfl d5_3 rfl (fun (hc3_0 : (lcmpW q1 q2).toInt < 0) => ?_) (fun (hc3_0 : ¬ ((lcmpW q1 q2).toInt < 0)) => ?_)
  · refine go_lloadN 11 rfl d5_10 rfl ?_
    exact go_lreturn d5_11 rfl rfl (by decide) (by decide) (by unfold Ret; rw [if_pos hc3_0]; exact ⟨rfl, rfl⟩)
  · refine go_lloadN 7 rfl d5_6 rfl ?_
    refine go_goto 11 (by decide) rfl d5_7 ?_
    exact go_lreturn d5_11 rfl rfl (by decide) (by decide) (by unfold Ret; rw [if_neg hc3_0]; exact ⟨rfl, rfl⟩)
theorem d4_0 : decode method_3_code 0 = .ok (.lload_n 2, 1) := by decide +kernel
theorem d4_1 : decode method_3_code 1 = .ok (.lconst 0, 1) := by decide +kernel
theorem d4_2 : decode method_3_code 2 = .ok (.lload_n 0, 1) := by decide +kernel
theorem d4_3 : decode method_3_code 3 = .ok (.ldc2_w 22, 3) := by decide +kernel
theorem d4_6 : decode method_3_code 6 = .ok (.ladd, 1) := by decide +kernel
theorem d4_7 : decode method_3_code 7 = .ok (.lload_n 2, 1) := by decide +kernel
theorem d4_8 : decode method_3_code 8 = .ok (.lsub, 1) := by decide +kernel
theorem d4_9 : decode method_3_code 9 = .ok (.invokestatic 24, 3) := by decide +kernel
theorem d4_12 : decode method_3_code 12 = .ok (.ladd, 1) := by decide +kernel
theorem d4_13 : decode method_3_code 13 = .ok (.lreturn, 1) := by decide +kernel
theorem pn4 : plainFor (⟨"com/example/offboard/offboard/fix/ThrottlePassPinLaw", "later", "(JJ)J"⟩ : MethodName) = true := by first | (apply plainFor_of_name; simp [plainName, overriddenIn]; done) | decide +kernel
def B4 : Bdy := (⟨"com/example/offboard/offboard/fix/ThrottlePassPinLaw", "later", "(JJ)J"⟩, method_3_code, 4, (some .long), ({ frames := 1, cells := 0, slots := 0, locals := 17 } : Room))
set_option maxRecDepth 65536 in
set_option maxHeartbeats 4000000 in
theorem m_later (Z : State) (a0 : Array Value) (hw : ∀ d ∈ tables_1, d.before a0 Z = true) (h0 : Heap) (ds : Mem) (q1 q2 : Int64) :
    Met B4 Z a0 h0 #[(.long q1), (.long q2)] ds (Ret (some (.long (lt1 q1 q2))) ds) := by
  refine Met.of pn4 (ls := #[.val (.long q1), .second, .val (.long q2), .second]) (fun m => by first | (simp [entryFrame, mkF, argsToLocals, Value.category, B4]; done) | rfl) ?_
  show Go B4 Z a0 h0 _ 0 0 ds 0 #[.val (.long q1), .second, .val (.long q2), .second] []
  refine go_lloadN 1 rfl d4_0 rfl ?_
  refine go_lconst (0 : Int64) 2 rfl d4_1 rfl ?_
  refine go_lloadN 3 rfl d4_2 rfl ?_
  refine go_ldc2 (v := (1000000000 : Int64)) 6 rfl d4_3 (wd hw 27 rfl) ?_
  refine go_ladd 7 rfl d4_6 rfl ?_
  refine go_lloadN 8 rfl d4_7 rfl ?_
  refine go_lsub 9 rfl d4_8 rfl ?_
  refine go_callS 12 rfl d4_9 (wd hw 28 rfl) (wd hw 29 rfl) (wd hw 30 rfl) (wd hw 31 rfl) (by decide) (m_max Z a0 hw h0 ds (0 : Int64) ((q1 + (1000000000 : Int64)) - q2)) (argsL := [(.long (0 : Int64)), (.long ((q1 + (1000000000 : Int64)) - q2))]) (rest := [(.long q2)]) rfl (ps := [.long, .long]) (by decide +kernel) rfl rfl 2 rfl (by decide) (by decide) (by decide) (by decide) ?_
  rintro _ _ ⟨rfl, rfl⟩
  show Go B4 Z a0 h0 _ 0 0 ds 12 #[.val (.long q1), .second, .val (.long q2), .second] [(.long (if (lcmpW (0 : Int64) ((q1 + (1000000000 : Int64)) - q2)).toInt < 0 then ((q1 + (1000000000 : Int64)) - q2) else (0 : Int64))), (.long q2)]
  refine go_ladd 13 rfl d4_12 rfl ?_
  exact go_lreturn d4_13 rfl rfl (by decide) (by decide) (by unfold Ret; rw [lt1_max]; exact ⟨rfl, rfl⟩)
theorem d1_0 : decode prog_83_method_1_code 0 = .ok (.aload_n 0, 1) := by decide +kernel
theorem d1_1 : decode prog_83_method_1_code 1 = .ok (.invokespecial 1, 3) := by decide +kernel
theorem d1_4 : decode prog_83_method_1_code 4 = .ok (.iload_n 1, 1) := by decide +kernel
theorem d1_5 : decode prog_83_method_1_code 5 = .ok (.ifCond .gt 17, 3) := by decide +kernel
theorem d1_22 : decode prog_83_method_1_code 22 = .ok (.aload_n 0, 1) := by decide +kernel
theorem d1_23 : decode prog_83_method_1_code 23 = .ok (.iload_n 1, 1) := by decide +kernel
theorem d1_24 : decode prog_83_method_1_code 24 = .ok (.newarray .long, 2) := by decide +kernel
theorem d1_26 : decode prog_83_method_1_code 26 = .ok (.putfield 16, 3) := by decide +kernel
theorem d1_29 : decode prog_83_method_1_code 29 = .ok (.return_, 1) := by decide +kernel
theorem pn1 : plainFor (⟨"com/example/offboard/offboard/fix/Throttle", "<init>", "(I)V"⟩ : MethodName) = true := by first | (apply plainFor_of_name; simp [plainName, overriddenIn]; done) | decide +kernel
def B1_2 : Bdy := (⟨"com/example/offboard/offboard/fix/Throttle", "<init>", "(I)V"⟩, prog_83_method_1_code, 2, none, ({ frames := 1, cells := 1, slots := 1, locals := 12 } : Room))
set_option maxRecDepth 65536 in
set_option maxHeartbeats 4000000 in
theorem mt2 (Z : State) (a0 : Array Value) (hw : ∀ d ∈ tables_1, d.before a0 Z = true) (h0 : Heap) (SW : Sta Z h0 "com/example/offboard/offboard/fix/Throttle" "WINDOW_NANOS" "J" (.long 1000000000)) (a1 : Addr) :
    Met B1_2 Z a0 h0 #[(.ref a1), (.int (1 : Int32))] [ob a1 "com/example/offboard/offboard/fix/Throttle" [("com/example/offboard/offboard/fix/Throttle", "passed", "[J", .null), ("com/example/offboard/offboard/fix/Throttle", "count", "I", (.int (0 : Int32))), ("com/example/offboard/offboard/fix/Throttle", "next", "I", (.int (0 : Int32)))]] (fun v ds => ∃ a102 : Addr, Ret none [ob a1 "com/example/offboard/offboard/fix/Throttle" [("com/example/offboard/offboard/fix/Throttle", "passed", "[J", (.ref a102)), ("com/example/offboard/offboard/fix/Throttle", "count", "I", (.int (0 : Int32))), ("com/example/offboard/offboard/fix/Throttle", "next", "I", (.int (0 : Int32)))], ar a102 .long [(.long (0 : Int64))]] v ds) := by
  refine Met.of pn1 (ls := #[.val (.ref a1), .val (.int (1 : Int32))]) (fun m => by first | (simp [entryFrame, mkF, argsToLocals, Value.category, B1_2]; done) | rfl) ?_
  show Go B1_2 Z a0 h0 _ 0 0 [ob a1 "com/example/offboard/offboard/fix/Throttle" [("com/example/offboard/offboard/fix/Throttle", "passed", "[J", .null), ("com/example/offboard/offboard/fix/Throttle", "count", "I", (.int (0 : Int32))), ("com/example/offboard/offboard/fix/Throttle", "next", "I", (.int (0 : Int32)))]] 0 #[.val (.ref a1), .val (.int (1 : Int32))] []
  refine go_aloadN 1 rfl d1_0 rfl rfl ?_
  refine go_initObj 4 rfl d1_1 rfl (wd hw 6 rfl) (wd hw 7 rfl) (wd hw 8 rfl) rfl (by decide) (by decide) ?_
  refine go_iloadN 5 rfl d1_4 rfl ?_
  refine go_if 22 8 rfl (by decide) rfl d1_5 rfl (fun (hc5 : 0 < (1 : Int)) => ?_) (fun (hc5 : ¬ (0 < (1 : Int))) => absurd hc5 (by decide))
  refine go_aloadN 23 rfl d1_22 rfl rfl ?_
  refine go_iloadN 24 rfl d1_23 rfl ?_
  refine go_newarr 26 rfl d1_24 rfl (wd hw 9 rfl) (by decide) 1 (by decide) (by decide) (by decide) (by decide) (fun a102 => ?_)
  show Go B1_2 Z a0 h0 _ 1 1 [ob a1 "com/example/offboard/offboard/fix/Throttle" [("com/example/offboard/offboard/fix/Throttle", "passed", "[J", .null), ("com/example/offboard/offboard/fix/Throttle", "count", "I", (.int (0 : Int32))), ("com/example/offboard/offboard/fix/Throttle", "next", "I", (.int (0 : Int32)))], ar a102 .long [(.long (0 : Int64))]] 26 #[.val (.ref a1), .val (.int (1 : Int32))] [(.ref a102), (.ref a1)]
  refine go_put 0 0 29 rfl d1_26 rfl rfl rfl (wd hw 10 rfl) (Or.inr ⟨(wd hw 11 rfl), rfl, rfl⟩) (wd hw 1 rfl) (ty := (.array .long)) (by decide) rfl rfl ?_
  show Go B1_2 Z a0 h0 _ 1 1 [ob a1 "com/example/offboard/offboard/fix/Throttle" [("com/example/offboard/offboard/fix/Throttle", "passed", "[J", (.ref a102)), ("com/example/offboard/offboard/fix/Throttle", "count", "I", (.int (0 : Int32))), ("com/example/offboard/offboard/fix/Throttle", "next", "I", (.int (0 : Int32)))], ar a102 .long [(.long (0 : Int64))]] 29 #[.val (.ref a1), .val (.int (1 : Int32))] []
  exact go_return d1_29 rfl rfl (by decide) (by decide) ⟨a102, rfl, rfl⟩
theorem d3_0 : decode prog_83_method_2_code 0 = .ok (.lload_n 1, 1) := by decide +kernel
theorem d3_1 : decode prog_83_method_2_code 1 = .ok (.lstore_n 3, 1) := by decide +kernel
theorem d3_2 : decode prog_83_method_2_code 2 = .ok (.aload_n 0, 1) := by decide +kernel
theorem d3_3 : decode prog_83_method_2_code 3 = .ok (.getfield 22, 3) := by decide +kernel
theorem d3_6 : decode prog_83_method_2_code 6 = .ok (.aload_n 0, 1) := by decide +kernel
theorem d3_7 : decode prog_83_method_2_code 7 = .ok (.getfield 16, 3) := by decide +kernel
theorem d3_10 : decode prog_83_method_2_code 10 = .ok (.arraylength, 1) := by decide +kernel
theorem d3_11 : decode prog_83_method_2_code 11 = .ok (.if_icmp .ge 16, 3) := by decide +kernel
theorem d3_14 : decode prog_83_method_2_code 14 = .ok (.aload_n 0, 1) := by decide +kernel
theorem d3_15 : decode prog_83_method_2_code 15 = .ok (.dup, 1) := by decide +kernel
theorem d3_16 : decode prog_83_method_2_code 16 = .ok (.getfield 22, 3) := by decide +kernel
theorem d3_19 : decode prog_83_method_2_code 19 = .ok (.iconst 1, 1) := by decide +kernel
theorem d3_20 : decode prog_83_method_2_code 20 = .ok (.iadd, 1) := by decide +kernel
theorem d3_21 : decode prog_83_method_2_code 21 = .ok (.putfield 22, 3) := by decide +kernel
theorem d3_24 : decode prog_83_method_2_code 24 = .ok (.goto 37, 3) := by decide +kernel
theorem d3_61 : decode prog_83_method_2_code 61 = .ok (.aload_n 0, 1) := by decide +kernel
theorem d3_62 : decode prog_83_method_2_code 62 = .ok (.getfield 16, 3) := by decide +kernel
theorem d3_65 : decode prog_83_method_2_code 65 = .ok (.aload_n 0, 1) := by decide +kernel
theorem d3_66 : decode prog_83_method_2_code 66 = .ok (.getfield 26, 3) := by decide +kernel
theorem d3_69 : decode prog_83_method_2_code 69 = .ok (.lload_n 3, 1) := by decide +kernel
theorem d3_70 : decode prog_83_method_2_code 70 = .ok (.lastore, 1) := by decide +kernel
theorem d3_71 : decode prog_83_method_2_code 71 = .ok (.aload_n 0, 1) := by decide +kernel
theorem d3_72 : decode prog_83_method_2_code 72 = .ok (.aload_n 0, 1) := by decide +kernel
theorem d3_73 : decode prog_83_method_2_code 73 = .ok (.getfield 26, 3) := by decide +kernel
theorem d3_76 : decode prog_83_method_2_code 76 = .ok (.iconst 1, 1) := by decide +kernel
theorem d3_77 : decode prog_83_method_2_code 77 = .ok (.iadd, 1) := by decide +kernel
theorem d3_78 : decode prog_83_method_2_code 78 = .ok (.aload_n 0, 1) := by decide +kernel
theorem d3_79 : decode prog_83_method_2_code 79 = .ok (.getfield 16, 3) := by decide +kernel
theorem d3_82 : decode prog_83_method_2_code 82 = .ok (.arraylength, 1) := by decide +kernel
theorem d3_83 : decode prog_83_method_2_code 83 = .ok (.irem, 1) := by decide +kernel
theorem d3_84 : decode prog_83_method_2_code 84 = .ok (.putfield 26, 3) := by decide +kernel
theorem d3_87 : decode prog_83_method_2_code 87 = .ok (.lload_n 3, 1) := by decide +kernel
theorem d3_88 : decode prog_83_method_2_code 88 = .ok (.lreturn, 1) := by decide +kernel
theorem pn3 : plainFor (⟨"com/example/offboard/offboard/fix/Throttle", "pass", "(J)J"⟩ : MethodName) = true := by first | (apply plainFor_of_name; simp [plainName, overriddenIn]; done) | decide +kernel
def B3_3 : Bdy := (⟨"com/example/offboard/offboard/fix/Throttle", "pass", "(J)J"⟩, prog_83_method_2_code, 5, (some .long), ({ frames := 0, cells := 0, slots := 0, locals := 0 } : Room))
set_option maxRecDepth 65536 in
set_option maxHeartbeats 4000000 in
theorem mt3 (Z : State) (a0 : Array Value) (hw : ∀ d ∈ tables_1, d.before a0 Z = true) (h0 : Heap) (SW : Sta Z h0 "com/example/offboard/offboard/fix/Throttle" "WINDOW_NANOS" "J" (.long 1000000000)) (a1 : Addr) (a2 : Addr) (q0 : Int64) :
    Met B3_3 Z a0 h0 #[(.ref a1), (.long q0)] [ob a1 "com/example/offboard/offboard/fix/Throttle" [("com/example/offboard/offboard/fix/Throttle", "passed", "[J", (.ref a2)), ("com/example/offboard/offboard/fix/Throttle", "count", "I", (.int (0 : Int32))), ("com/example/offboard/offboard/fix/Throttle", "next", "I", (.int (0 : Int32)))], ar a2 .long [(.long (0 : Int64))]] (Ret (some (.long q0)) [ob a1 "com/example/offboard/offboard/fix/Throttle" [("com/example/offboard/offboard/fix/Throttle", "passed", "[J", (.ref a2)), ("com/example/offboard/offboard/fix/Throttle", "count", "I", (.int (1 : Int32))), ("com/example/offboard/offboard/fix/Throttle", "next", "I", (.int (0 : Int32)))], ar a2 .long [(.long q0)]]) := by
  refine Met.of pn3 (ls := #[.val (.ref a1), .val (.long q0), .second, .unset, .unset]) (fun m => by first | (simp [entryFrame, mkF, argsToLocals, Value.category, B3_3]; done) | rfl) ?_
  show Go B3_3 Z a0 h0 _ 0 0 [ob a1 "com/example/offboard/offboard/fix/Throttle" [("com/example/offboard/offboard/fix/Throttle", "passed", "[J", (.ref a2)), ("com/example/offboard/offboard/fix/Throttle", "count", "I", (.int (0 : Int32))), ("com/example/offboard/offboard/fix/Throttle", "next", "I", (.int (0 : Int32)))], ar a2 .long [(.long (0 : Int64))]] 0 #[.val (.ref a1), .val (.long q0), .second, .unset, .unset] []
  refine go_lloadN 1 rfl d3_0 rfl ?_
  refine go_lstoreN #[.val (.ref a1), .val (.long q0), .second, .val (.long q0), .second] 2 rfl d3_1 rfl rfl ?_
  refine go_aloadN 3 rfl d3_2 rfl rfl ?_
  refine go_get 0 1 6 rfl d3_3 rfl rfl rfl (wd hw 17 rfl) ?_
  refine go_aloadN 7 rfl d3_6 rfl rfl ?_
  refine go_get 0 0 10 rfl d3_7 rfl rfl rfl (wd hw 10 rfl) ?_
  refine go_alen 1 11 rfl d3_10 rfl rfl ?_
  show Go B3_3 Z a0 h0 _ 0 0 [ob a1 "com/example/offboard/offboard/fix/Throttle" [("com/example/offboard/offboard/fix/Throttle", "passed", "[J", (.ref a2)), ("com/example/offboard/offboard/fix/Throttle", "count", "I", (.int (0 : Int32))), ("com/example/offboard/offboard/fix/Throttle", "next", "I", (.int (0 : Int32)))], ar a2 .long [(.long (0 : Int64))]] 11 #[.val (.ref a1), .val (.long q0), .second, .val (.long q0), .second] [(.int (1 : Int32)), (.int (0 : Int32))]
  refine go_icmp 27 14 rfl (by decide) rfl d3_11 rfl (fun (hc11 : (1 : Int) ≤ (0 : Int)) => absurd hc11 (by decide)) (fun (hc11 : ¬ ((1 : Int) ≤ (0 : Int))) => ?_)
  refine go_aloadN 15 rfl d3_14 rfl rfl ?_
  refine go_dup 16 rfl d3_15 rfl rfl ?_
  refine go_get 0 1 19 rfl d3_16 rfl rfl rfl (wd hw 17 rfl) ?_
  refine go_iconst (1 : Int32) 20 rfl d3_19 rfl ?_
  refine go_iadd 21 rfl d3_20 rfl ?_
  show Go B3_3 Z a0 h0 _ 0 0 [ob a1 "com/example/offboard/offboard/fix/Throttle" [("com/example/offboard/offboard/fix/Throttle", "passed", "[J", (.ref a2)), ("com/example/offboard/offboard/fix/Throttle", "count", "I", (.int (0 : Int32))), ("com/example/offboard/offboard/fix/Throttle", "next", "I", (.int (0 : Int32)))], ar a2 .long [(.long (0 : Int64))]] 21 #[.val (.ref a1), .val (.long q0), .second, .val (.long q0), .second] [(.int (1 : Int32)), (.ref a1)]
  refine go_put 0 1 24 rfl d3_21 rfl rfl rfl (wd hw 17 rfl) (Or.inl (wd hw 18 rfl)) (wd hw 1 rfl) (ty := .int) (by decide) rfl rfl ?_
  show Go B3_3 Z a0 h0 _ 0 0 [ob a1 "com/example/offboard/offboard/fix/Throttle" [("com/example/offboard/offboard/fix/Throttle", "passed", "[J", (.ref a2)), ("com/example/offboard/offboard/fix/Throttle", "count", "I", (.int (1 : Int32))), ("com/example/offboard/offboard/fix/Throttle", "next", "I", (.int (0 : Int32)))], ar a2 .long [(.long (0 : Int64))]] 24 #[.val (.ref a1), .val (.long q0), .second, .val (.long q0), .second] []
  refine go_goto 61 (by decide) rfl d3_24 ?_
  refine go_aloadN 62 rfl d3_61 rfl rfl ?_
  refine go_get 0 0 65 rfl d3_62 rfl rfl rfl (wd hw 10 rfl) ?_
  refine go_aloadN 66 rfl d3_65 rfl rfl ?_
  refine go_get 0 2 69 rfl d3_66 rfl rfl rfl (wd hw 19 rfl) ?_
  refine go_lloadN 70 rfl d3_69 rfl ?_
  refine go_lastore 1 71 rfl d3_70 rfl rfl (by decide) (Nat.le_of_ble_eq_true rfl) ?_
  show Go B3_3 Z a0 h0 _ 0 0 [ob a1 "com/example/offboard/offboard/fix/Throttle" [("com/example/offboard/offboard/fix/Throttle", "passed", "[J", (.ref a2)), ("com/example/offboard/offboard/fix/Throttle", "count", "I", (.int (1 : Int32))), ("com/example/offboard/offboard/fix/Throttle", "next", "I", (.int (0 : Int32)))], ar a2 .long [(.long q0)]] 71 #[.val (.ref a1), .val (.long q0), .second, .val (.long q0), .second] []
  refine go_aloadN 72 rfl d3_71 rfl rfl ?_
  refine go_aloadN 73 rfl d3_72 rfl rfl ?_
  refine go_get 0 2 76 rfl d3_73 rfl rfl rfl (wd hw 19 rfl) ?_
  refine go_iconst (1 : Int32) 77 rfl d3_76 rfl ?_
  refine go_iadd 78 rfl d3_77 rfl ?_
  show Go B3_3 Z a0 h0 _ 0 0 [ob a1 "com/example/offboard/offboard/fix/Throttle" [("com/example/offboard/offboard/fix/Throttle", "passed", "[J", (.ref a2)), ("com/example/offboard/offboard/fix/Throttle", "count", "I", (.int (1 : Int32))), ("com/example/offboard/offboard/fix/Throttle", "next", "I", (.int (0 : Int32)))], ar a2 .long [(.long q0)]] 78 #[.val (.ref a1), .val (.long q0), .second, .val (.long q0), .second] [(.int (1 : Int32)), (.ref a1)]
  refine go_aloadN 79 rfl d3_78 rfl rfl ?_
  refine go_get 0 0 82 rfl d3_79 rfl rfl rfl (wd hw 10 rfl) ?_
  refine go_alen 1 83 rfl d3_82 rfl rfl ?_
  show Go B3_3 Z a0 h0 _ 0 0 [ob a1 "com/example/offboard/offboard/fix/Throttle" [("com/example/offboard/offboard/fix/Throttle", "passed", "[J", (.ref a2)), ("com/example/offboard/offboard/fix/Throttle", "count", "I", (.int (1 : Int32))), ("com/example/offboard/offboard/fix/Throttle", "next", "I", (.int (0 : Int32)))], ar a2 .long [(.long q0)]] 83 #[.val (.ref a1), .val (.long q0), .second, .val (.long q0), .second] [(.int (1 : Int32)), (.int (1 : Int32)), (.ref a1)]
  refine go_irem 84 rfl d3_83 rfl (by decide) ?_
  show Go B3_3 Z a0 h0 _ 0 0 [ob a1 "com/example/offboard/offboard/fix/Throttle" [("com/example/offboard/offboard/fix/Throttle", "passed", "[J", (.ref a2)), ("com/example/offboard/offboard/fix/Throttle", "count", "I", (.int (1 : Int32))), ("com/example/offboard/offboard/fix/Throttle", "next", "I", (.int (0 : Int32)))], ar a2 .long [(.long q0)]] 84 #[.val (.ref a1), .val (.long q0), .second, .val (.long q0), .second] [(.int (0 : Int32)), (.ref a1)]
  refine go_put 0 2 87 rfl d3_84 rfl rfl rfl (wd hw 19 rfl) (Or.inl (wd hw 20 rfl)) (wd hw 1 rfl) (ty := .int) (by decide) rfl rfl ?_
  show Go B3_3 Z a0 h0 _ 0 0 [ob a1 "com/example/offboard/offboard/fix/Throttle" [("com/example/offboard/offboard/fix/Throttle", "passed", "[J", (.ref a2)), ("com/example/offboard/offboard/fix/Throttle", "count", "I", (.int (1 : Int32))), ("com/example/offboard/offboard/fix/Throttle", "next", "I", (.int (0 : Int32)))], ar a2 .long [(.long q0)]] 87 #[.val (.ref a1), .val (.long q0), .second, .val (.long q0), .second] []
  refine go_lloadN 88 rfl d3_87 rfl ?_
  exact go_lreturn d3_88 rfl rfl (by decide) (by decide) ⟨rfl, rfl⟩
theorem d3_27 : decode prog_83_method_2_code 27 = .ok (.aload_n 0, 1) := by decide +kernel
theorem d3_28 : decode prog_83_method_2_code 28 = .ok (.getfield 16, 3) := by decide +kernel
theorem d3_31 : decode prog_83_method_2_code 31 = .ok (.aload_n 0, 1) := by decide +kernel
theorem d3_32 : decode prog_83_method_2_code 32 = .ok (.getfield 26, 3) := by decide +kernel
theorem d3_35 : decode prog_83_method_2_code 35 = .ok (.laload, 1) := by decide +kernel
theorem d3_36 : decode prog_83_method_2_code 36 = .ok (.getstatic 29, 3) := by decide +kernel
theorem d3_39 : decode prog_83_method_2_code 39 = .ok (.ladd, 1) := by decide +kernel
theorem d3_40 : decode prog_83_method_2_code 40 = .ok (.lload_n 1, 1) := by decide +kernel
theorem d3_41 : decode prog_83_method_2_code 41 = .ok (.lsub, 1) := by decide +kernel
theorem d3_42 : decode prog_83_method_2_code 42 = .ok (.lconst 0, 1) := by decide +kernel
theorem d3_43 : decode prog_83_method_2_code 43 = .ok (.lcmp, 1) := by decide +kernel
theorem d3_44 : decode prog_83_method_2_code 44 = .ok (.ifCond .le 17, 3) := by decide +kernel
theorem d3_47 : decode prog_83_method_2_code 47 = .ok (.aload_n 0, 1) := by decide +kernel
theorem d3_48 : decode prog_83_method_2_code 48 = .ok (.getfield 16, 3) := by decide +kernel
theorem d3_51 : decode prog_83_method_2_code 51 = .ok (.aload_n 0, 1) := by decide +kernel
theorem d3_52 : decode prog_83_method_2_code 52 = .ok (.getfield 26, 3) := by decide +kernel
theorem d3_55 : decode prog_83_method_2_code 55 = .ok (.laload, 1) := by decide +kernel
theorem d3_56 : decode prog_83_method_2_code 56 = .ok (.getstatic 29, 3) := by decide +kernel
theorem d3_59 : decode prog_83_method_2_code 59 = .ok (.ladd, 1) := by decide +kernel
theorem d3_60 : decode prog_83_method_2_code 60 = .ok (.lstore_n 3, 1) := by decide +kernel
def B3_4 : Bdy := (⟨"com/example/offboard/offboard/fix/Throttle", "pass", "(J)J"⟩, prog_83_method_2_code, 5, (some .long), ({ frames := 0, cells := 0, slots := 0, locals := 0 } : Room))
set_option maxRecDepth 65536 in
set_option maxHeartbeats 4000000 in
theorem mt4 (Z : State) (a0 : Array Value) (hw : ∀ d ∈ tables_1, d.before a0 Z = true) (h0 : Heap) (SW : Sta Z h0 "com/example/offboard/offboard/fix/Throttle" "WINDOW_NANOS" "J" (.long 1000000000)) (a1 : Addr) (a2 : Addr) (q0 : Int64) (q1 : Int64) :
    Met B3_4 Z a0 h0 #[(.ref a1), (.long q1)] [ob a1 "com/example/offboard/offboard/fix/Throttle" [("com/example/offboard/offboard/fix/Throttle", "passed", "[J", (.ref a2)), ("com/example/offboard/offboard/fix/Throttle", "count", "I", (.int (1 : Int32))), ("com/example/offboard/offboard/fix/Throttle", "next", "I", (.int (0 : Int32)))], ar a2 .long [(.long q0)]] (Ret (some (.long (lt1 q0 q1))) [ob a1 "com/example/offboard/offboard/fix/Throttle" [("com/example/offboard/offboard/fix/Throttle", "passed", "[J", (.ref a2)), ("com/example/offboard/offboard/fix/Throttle", "count", "I", (.int (1 : Int32))), ("com/example/offboard/offboard/fix/Throttle", "next", "I", (.int (0 : Int32)))], ar a2 .long [(.long (lt1 q0 q1))]]) := by
  refine Met.of pn3 (ls := #[.val (.ref a1), .val (.long q1), .second, .unset, .unset]) (fun m => by first | (simp [entryFrame, mkF, argsToLocals, Value.category, B3_4]; done) | rfl) ?_
  show Go B3_4 Z a0 h0 _ 0 0 [ob a1 "com/example/offboard/offboard/fix/Throttle" [("com/example/offboard/offboard/fix/Throttle", "passed", "[J", (.ref a2)), ("com/example/offboard/offboard/fix/Throttle", "count", "I", (.int (1 : Int32))), ("com/example/offboard/offboard/fix/Throttle", "next", "I", (.int (0 : Int32)))], ar a2 .long [(.long q0)]] 0 #[.val (.ref a1), .val (.long q1), .second, .unset, .unset] []
  refine go_lloadN 1 rfl d3_0 rfl ?_
  refine go_lstoreN #[.val (.ref a1), .val (.long q1), .second, .val (.long q1), .second] 2 rfl d3_1 rfl rfl ?_
  refine go_aloadN 3 rfl d3_2 rfl rfl ?_
  refine go_get 0 1 6 rfl d3_3 rfl rfl rfl (wd hw 17 rfl) ?_
  refine go_aloadN 7 rfl d3_6 rfl rfl ?_
  refine go_get 0 0 10 rfl d3_7 rfl rfl rfl (wd hw 10 rfl) ?_
  refine go_alen 1 11 rfl d3_10 rfl rfl ?_
  show Go B3_4 Z a0 h0 _ 0 0 [ob a1 "com/example/offboard/offboard/fix/Throttle" [("com/example/offboard/offboard/fix/Throttle", "passed", "[J", (.ref a2)), ("com/example/offboard/offboard/fix/Throttle", "count", "I", (.int (1 : Int32))), ("com/example/offboard/offboard/fix/Throttle", "next", "I", (.int (0 : Int32)))], ar a2 .long [(.long q0)]] 11 #[.val (.ref a1), .val (.long q1), .second, .val (.long q1), .second] [(.int (1 : Int32)), (.int (1 : Int32))]
  refine go_icmp 27 14 rfl (by decide) rfl d3_11 rfl (fun (hc11 : (1 : Int) ≤ (1 : Int)) => ?_) (fun (hc11 : ¬ ((1 : Int) ≤ (1 : Int))) => absurd hc11 (by decide))
  refine go_aloadN 28 rfl d3_27 rfl rfl ?_
  refine go_get 0 0 31 rfl d3_28 rfl rfl rfl (wd hw 10 rfl) ?_
  refine go_aloadN 32 rfl d3_31 rfl rfl ?_
  refine go_get 0 2 35 rfl d3_32 rfl rfl rfl (wd hw 19 rfl) ?_
  refine go_laload 36 rfl d3_35 rfl (Mo.el (i := 1) rfl (by decide) rfl) ?_
  refine go_getS 39 rfl d3_36 (wd hw 21 rfl) SW ?_
  refine go_ladd 40 rfl d3_39 rfl ?_
  refine go_lloadN 41 rfl d3_40 rfl ?_
  refine go_lsub 42 rfl d3_41 rfl ?_
  refine go_lconst (0 : Int64) 43 rfl d3_42 rfl ?_
  refine go_lcmp 44 rfl d3_43 rfl ?_
  refine go_if 61 47 rfl (by decide) rfl d3_44 rfl (fun (hc44_4 : (lcmpW ((q0 + (1000000000 : Int64)) - q1) (0 : Int64)).toInt ≤ 0) => ?_) (fun (hc44_4 : ¬ ((lcmpW ((q0 + (1000000000 : Int64)) - q1) (0 : Int64)).toInt ≤ 0)) => ?_)
  · refine go_aloadN 62 rfl d3_61 rfl rfl ?_
    refine go_get 0 0 65 rfl d3_62 rfl rfl rfl (wd hw 10 rfl) ?_
    refine go_aloadN 66 rfl d3_65 rfl rfl ?_
    refine go_get 0 2 69 rfl d3_66 rfl rfl rfl (wd hw 19 rfl) ?_
    refine go_lloadN 70 rfl d3_69 rfl ?_
    refine go_lastore 1 71 rfl d3_70 rfl rfl (by decide) (Nat.le_of_ble_eq_true rfl) ?_
    show Go B3_4 Z a0 h0 _ 0 0 [ob a1 "com/example/offboard/offboard/fix/Throttle" [("com/example/offboard/offboard/fix/Throttle", "passed", "[J", (.ref a2)), ("com/example/offboard/offboard/fix/Throttle", "count", "I", (.int (1 : Int32))), ("com/example/offboard/offboard/fix/Throttle", "next", "I", (.int (0 : Int32)))], ar a2 .long [(.long q1)]] 71 #[.val (.ref a1), .val (.long q1), .second, .val (.long q1), .second] []
    refine go_aloadN 72 rfl d3_71 rfl rfl ?_
    refine go_aloadN 73 rfl d3_72 rfl rfl ?_
    refine go_get 0 2 76 rfl d3_73 rfl rfl rfl (wd hw 19 rfl) ?_
    refine go_iconst (1 : Int32) 77 rfl d3_76 rfl ?_
    refine go_iadd 78 rfl d3_77 rfl ?_
    show Go B3_4 Z a0 h0 _ 0 0 [ob a1 "com/example/offboard/offboard/fix/Throttle" [("com/example/offboard/offboard/fix/Throttle", "passed", "[J", (.ref a2)), ("com/example/offboard/offboard/fix/Throttle", "count", "I", (.int (1 : Int32))), ("com/example/offboard/offboard/fix/Throttle", "next", "I", (.int (0 : Int32)))], ar a2 .long [(.long q1)]] 78 #[.val (.ref a1), .val (.long q1), .second, .val (.long q1), .second] [(.int (1 : Int32)), (.ref a1)]
    refine go_aloadN 79 rfl d3_78 rfl rfl ?_
    refine go_get 0 0 82 rfl d3_79 rfl rfl rfl (wd hw 10 rfl) ?_
    refine go_alen 1 83 rfl d3_82 rfl rfl ?_
    show Go B3_4 Z a0 h0 _ 0 0 [ob a1 "com/example/offboard/offboard/fix/Throttle" [("com/example/offboard/offboard/fix/Throttle", "passed", "[J", (.ref a2)), ("com/example/offboard/offboard/fix/Throttle", "count", "I", (.int (1 : Int32))), ("com/example/offboard/offboard/fix/Throttle", "next", "I", (.int (0 : Int32)))], ar a2 .long [(.long q1)]] 83 #[.val (.ref a1), .val (.long q1), .second, .val (.long q1), .second] [(.int (1 : Int32)), (.int (1 : Int32)), (.ref a1)]
    refine go_irem 84 rfl d3_83 rfl (by decide) ?_
    show Go B3_4 Z a0 h0 _ 0 0 [ob a1 "com/example/offboard/offboard/fix/Throttle" [("com/example/offboard/offboard/fix/Throttle", "passed", "[J", (.ref a2)), ("com/example/offboard/offboard/fix/Throttle", "count", "I", (.int (1 : Int32))), ("com/example/offboard/offboard/fix/Throttle", "next", "I", (.int (0 : Int32)))], ar a2 .long [(.long q1)]] 84 #[.val (.ref a1), .val (.long q1), .second, .val (.long q1), .second] [(.int (0 : Int32)), (.ref a1)]
    refine go_put 0 2 87 rfl d3_84 rfl rfl rfl (wd hw 19 rfl) (Or.inl (wd hw 20 rfl)) (wd hw 1 rfl) (ty := .int) (by decide) rfl rfl ?_
    show Go B3_4 Z a0 h0 _ 0 0 [ob a1 "com/example/offboard/offboard/fix/Throttle" [("com/example/offboard/offboard/fix/Throttle", "passed", "[J", (.ref a2)), ("com/example/offboard/offboard/fix/Throttle", "count", "I", (.int (1 : Int32))), ("com/example/offboard/offboard/fix/Throttle", "next", "I", (.int (0 : Int32)))], ar a2 .long [(.long q1)]] 87 #[.val (.ref a1), .val (.long q1), .second, .val (.long q1), .second] []
    refine go_lloadN 88 rfl d3_87 rfl ?_
    exact go_lreturn d3_88 rfl rfl (by decide) (by decide) (by unfold Ret; rw [lt1_pos hc44_4]; exact ⟨rfl, rfl⟩)
  · refine go_aloadN 48 rfl d3_47 rfl rfl ?_
    refine go_get 0 0 51 rfl d3_48 rfl rfl rfl (wd hw 10 rfl) ?_
    refine go_aloadN 52 rfl d3_51 rfl rfl ?_
    refine go_get 0 2 55 rfl d3_52 rfl rfl rfl (wd hw 19 rfl) ?_
    refine go_laload 56 rfl d3_55 rfl (Mo.el (i := 1) rfl (by decide) rfl) ?_
    refine go_getS 59 rfl d3_56 (wd hw 21 rfl) SW ?_
    refine go_ladd 60 rfl d3_59 rfl ?_
    refine go_lstoreN #[.val (.ref a1), .val (.long q1), .second, .val (.long (q0 + (1000000000 : Int64))), .second] 61 rfl d3_60 rfl rfl ?_
    refine go_aloadN 62 rfl d3_61 rfl rfl ?_
    refine go_get 0 0 65 rfl d3_62 rfl rfl rfl (wd hw 10 rfl) ?_
    refine go_aloadN 66 rfl d3_65 rfl rfl ?_
    refine go_get 0 2 69 rfl d3_66 rfl rfl rfl (wd hw 19 rfl) ?_
    refine go_lloadN 70 rfl d3_69 rfl ?_
    refine go_lastore 1 71 rfl d3_70 rfl rfl (by decide) (Nat.le_of_ble_eq_true rfl) ?_
    show Go B3_4 Z a0 h0 _ 0 0 [ob a1 "com/example/offboard/offboard/fix/Throttle" [("com/example/offboard/offboard/fix/Throttle", "passed", "[J", (.ref a2)), ("com/example/offboard/offboard/fix/Throttle", "count", "I", (.int (1 : Int32))), ("com/example/offboard/offboard/fix/Throttle", "next", "I", (.int (0 : Int32)))], ar a2 .long [(.long (q0 + (1000000000 : Int64)))]] 71 #[.val (.ref a1), .val (.long q1), .second, .val (.long (q0 + (1000000000 : Int64))), .second] []
    refine go_aloadN 72 rfl d3_71 rfl rfl ?_
    refine go_aloadN 73 rfl d3_72 rfl rfl ?_
    refine go_get 0 2 76 rfl d3_73 rfl rfl rfl (wd hw 19 rfl) ?_
    refine go_iconst (1 : Int32) 77 rfl d3_76 rfl ?_
    refine go_iadd 78 rfl d3_77 rfl ?_
    show Go B3_4 Z a0 h0 _ 0 0 [ob a1 "com/example/offboard/offboard/fix/Throttle" [("com/example/offboard/offboard/fix/Throttle", "passed", "[J", (.ref a2)), ("com/example/offboard/offboard/fix/Throttle", "count", "I", (.int (1 : Int32))), ("com/example/offboard/offboard/fix/Throttle", "next", "I", (.int (0 : Int32)))], ar a2 .long [(.long (q0 + (1000000000 : Int64)))]] 78 #[.val (.ref a1), .val (.long q1), .second, .val (.long (q0 + (1000000000 : Int64))), .second] [(.int (1 : Int32)), (.ref a1)]
    refine go_aloadN 79 rfl d3_78 rfl rfl ?_
    refine go_get 0 0 82 rfl d3_79 rfl rfl rfl (wd hw 10 rfl) ?_
    refine go_alen 1 83 rfl d3_82 rfl rfl ?_
    show Go B3_4 Z a0 h0 _ 0 0 [ob a1 "com/example/offboard/offboard/fix/Throttle" [("com/example/offboard/offboard/fix/Throttle", "passed", "[J", (.ref a2)), ("com/example/offboard/offboard/fix/Throttle", "count", "I", (.int (1 : Int32))), ("com/example/offboard/offboard/fix/Throttle", "next", "I", (.int (0 : Int32)))], ar a2 .long [(.long (q0 + (1000000000 : Int64)))]] 83 #[.val (.ref a1), .val (.long q1), .second, .val (.long (q0 + (1000000000 : Int64))), .second] [(.int (1 : Int32)), (.int (1 : Int32)), (.ref a1)]
    refine go_irem 84 rfl d3_83 rfl (by decide) ?_
    show Go B3_4 Z a0 h0 _ 0 0 [ob a1 "com/example/offboard/offboard/fix/Throttle" [("com/example/offboard/offboard/fix/Throttle", "passed", "[J", (.ref a2)), ("com/example/offboard/offboard/fix/Throttle", "count", "I", (.int (1 : Int32))), ("com/example/offboard/offboard/fix/Throttle", "next", "I", (.int (0 : Int32)))], ar a2 .long [(.long (q0 + (1000000000 : Int64)))]] 84 #[.val (.ref a1), .val (.long q1), .second, .val (.long (q0 + (1000000000 : Int64))), .second] [(.int (0 : Int32)), (.ref a1)]
    refine go_put 0 2 87 rfl d3_84 rfl rfl rfl (wd hw 19 rfl) (Or.inl (wd hw 20 rfl)) (wd hw 1 rfl) (ty := .int) (by decide) rfl rfl ?_
    show Go B3_4 Z a0 h0 _ 0 0 [ob a1 "com/example/offboard/offboard/fix/Throttle" [("com/example/offboard/offboard/fix/Throttle", "passed", "[J", (.ref a2)), ("com/example/offboard/offboard/fix/Throttle", "count", "I", (.int (1 : Int32))), ("com/example/offboard/offboard/fix/Throttle", "next", "I", (.int (0 : Int32)))], ar a2 .long [(.long (q0 + (1000000000 : Int64)))]] 87 #[.val (.ref a1), .val (.long q1), .second, .val (.long (q0 + (1000000000 : Int64))), .second] []
    refine go_lloadN 88 rfl d3_87 rfl ?_
    exact go_lreturn d3_88 rfl rfl (by decide) (by decide) (by unfold Ret; rw [lt1_neg hc44_4]; exact ⟨rfl, rfl⟩)
def B3_6 : Bdy := (⟨"com/example/offboard/offboard/fix/Throttle", "pass", "(J)J"⟩, prog_83_method_2_code, 5, (some .long), ({ frames := 0, cells := 0, slots := 0, locals := 0 } : Room))
set_option maxRecDepth 65536 in
set_option maxHeartbeats 4000000 in
theorem mt6 (Z : State) (a0 : Array Value) (hw : ∀ d ∈ tables_1, d.before a0 Z = true) (h0 : Heap) (SW : Sta Z h0 "com/example/offboard/offboard/fix/Throttle" "WINDOW_NANOS" "J" (.long 1000000000)) (a1 : Addr) (a2 : Addr) (q0 : Int64) (q1 : Int64) (q2 : Int64) :
    Met B3_6 Z a0 h0 #[(.ref a1), (.long q2)] [ob a1 "com/example/offboard/offboard/fix/Throttle" [("com/example/offboard/offboard/fix/Throttle", "passed", "[J", (.ref a2)), ("com/example/offboard/offboard/fix/Throttle", "count", "I", (.int (1 : Int32))), ("com/example/offboard/offboard/fix/Throttle", "next", "I", (.int (0 : Int32)))], ar a2 .long [(.long (lt1 q0 q1))]] (Ret (some (.long (lt1 (lt1 q0 q1) q2))) [ob a1 "com/example/offboard/offboard/fix/Throttle" [("com/example/offboard/offboard/fix/Throttle", "passed", "[J", (.ref a2)), ("com/example/offboard/offboard/fix/Throttle", "count", "I", (.int (1 : Int32))), ("com/example/offboard/offboard/fix/Throttle", "next", "I", (.int (0 : Int32)))], ar a2 .long [(.long (lt1 (lt1 q0 q1) q2))]]) := by
  refine Met.of pn3 (ls := #[.val (.ref a1), .val (.long q2), .second, .unset, .unset]) (fun m => by first | (simp [entryFrame, mkF, argsToLocals, Value.category, B3_6]; done) | rfl) ?_
  show Go B3_6 Z a0 h0 _ 0 0 [ob a1 "com/example/offboard/offboard/fix/Throttle" [("com/example/offboard/offboard/fix/Throttle", "passed", "[J", (.ref a2)), ("com/example/offboard/offboard/fix/Throttle", "count", "I", (.int (1 : Int32))), ("com/example/offboard/offboard/fix/Throttle", "next", "I", (.int (0 : Int32)))], ar a2 .long [(.long (lt1 q0 q1))]] 0 #[.val (.ref a1), .val (.long q2), .second, .unset, .unset] []
  refine go_lloadN 1 rfl d3_0 rfl ?_
  refine go_lstoreN #[.val (.ref a1), .val (.long q2), .second, .val (.long q2), .second] 2 rfl d3_1 rfl rfl ?_
  refine go_aloadN 3 rfl d3_2 rfl rfl ?_
  refine go_get 0 1 6 rfl d3_3 rfl rfl rfl (wd hw 17 rfl) ?_
  refine go_aloadN 7 rfl d3_6 rfl rfl ?_
  refine go_get 0 0 10 rfl d3_7 rfl rfl rfl (wd hw 10 rfl) ?_
  refine go_alen 1 11 rfl d3_10 rfl rfl ?_
  show Go B3_6 Z a0 h0 _ 0 0 [ob a1 "com/example/offboard/offboard/fix/Throttle" [("com/example/offboard/offboard/fix/Throttle", "passed", "[J", (.ref a2)), ("com/example/offboard/offboard/fix/Throttle", "count", "I", (.int (1 : Int32))), ("com/example/offboard/offboard/fix/Throttle", "next", "I", (.int (0 : Int32)))], ar a2 .long [(.long (lt1 q0 q1))]] 11 #[.val (.ref a1), .val (.long q2), .second, .val (.long q2), .second] [(.int (1 : Int32)), (.int (1 : Int32))]
  refine go_icmp 27 14 rfl (by decide) rfl d3_11 rfl (fun (hc11 : (1 : Int) ≤ (1 : Int)) => ?_) (fun (hc11 : ¬ ((1 : Int) ≤ (1 : Int))) => absurd hc11 (by decide))
  refine go_aloadN 28 rfl d3_27 rfl rfl ?_
  refine go_get 0 0 31 rfl d3_28 rfl rfl rfl (wd hw 10 rfl) ?_
  refine go_aloadN 32 rfl d3_31 rfl rfl ?_
  refine go_get 0 2 35 rfl d3_32 rfl rfl rfl (wd hw 19 rfl) ?_
  refine go_laload 36 rfl d3_35 rfl (Mo.el (i := 1) rfl (by decide) rfl) ?_
  refine go_getS 39 rfl d3_36 (wd hw 21 rfl) SW ?_
  refine go_ladd 40 rfl d3_39 rfl ?_
  refine go_lloadN 41 rfl d3_40 rfl ?_
  refine go_lsub 42 rfl d3_41 rfl ?_
  refine go_lconst (0 : Int64) 43 rfl d3_42 rfl ?_
  refine go_lcmp 44 rfl d3_43 rfl ?_
  refine go_if 61 47 rfl (by decide) rfl d3_44 rfl (fun (hc44_6 : (lcmpW (((lt1 q0 q1) + (1000000000 : Int64)) - q2) (0 : Int64)).toInt ≤ 0) => ?_) (fun (hc44_6 : ¬ ((lcmpW (((lt1 q0 q1) + (1000000000 : Int64)) - q2) (0 : Int64)).toInt ≤ 0)) => ?_)
  · refine go_aloadN 62 rfl d3_61 rfl rfl ?_
    refine go_get 0 0 65 rfl d3_62 rfl rfl rfl (wd hw 10 rfl) ?_
    refine go_aloadN 66 rfl d3_65 rfl rfl ?_
    refine go_get 0 2 69 rfl d3_66 rfl rfl rfl (wd hw 19 rfl) ?_
    refine go_lloadN 70 rfl d3_69 rfl ?_
    refine go_lastore 1 71 rfl d3_70 rfl rfl (by decide) (Nat.le_of_ble_eq_true rfl) ?_
    show Go B3_6 Z a0 h0 _ 0 0 [ob a1 "com/example/offboard/offboard/fix/Throttle" [("com/example/offboard/offboard/fix/Throttle", "passed", "[J", (.ref a2)), ("com/example/offboard/offboard/fix/Throttle", "count", "I", (.int (1 : Int32))), ("com/example/offboard/offboard/fix/Throttle", "next", "I", (.int (0 : Int32)))], ar a2 .long [(.long q2)]] 71 #[.val (.ref a1), .val (.long q2), .second, .val (.long q2), .second] []
    refine go_aloadN 72 rfl d3_71 rfl rfl ?_
    refine go_aloadN 73 rfl d3_72 rfl rfl ?_
    refine go_get 0 2 76 rfl d3_73 rfl rfl rfl (wd hw 19 rfl) ?_
    refine go_iconst (1 : Int32) 77 rfl d3_76 rfl ?_
    refine go_iadd 78 rfl d3_77 rfl ?_
    show Go B3_6 Z a0 h0 _ 0 0 [ob a1 "com/example/offboard/offboard/fix/Throttle" [("com/example/offboard/offboard/fix/Throttle", "passed", "[J", (.ref a2)), ("com/example/offboard/offboard/fix/Throttle", "count", "I", (.int (1 : Int32))), ("com/example/offboard/offboard/fix/Throttle", "next", "I", (.int (0 : Int32)))], ar a2 .long [(.long q2)]] 78 #[.val (.ref a1), .val (.long q2), .second, .val (.long q2), .second] [(.int (1 : Int32)), (.ref a1)]
    refine go_aloadN 79 rfl d3_78 rfl rfl ?_
    refine go_get 0 0 82 rfl d3_79 rfl rfl rfl (wd hw 10 rfl) ?_
    refine go_alen 1 83 rfl d3_82 rfl rfl ?_
    show Go B3_6 Z a0 h0 _ 0 0 [ob a1 "com/example/offboard/offboard/fix/Throttle" [("com/example/offboard/offboard/fix/Throttle", "passed", "[J", (.ref a2)), ("com/example/offboard/offboard/fix/Throttle", "count", "I", (.int (1 : Int32))), ("com/example/offboard/offboard/fix/Throttle", "next", "I", (.int (0 : Int32)))], ar a2 .long [(.long q2)]] 83 #[.val (.ref a1), .val (.long q2), .second, .val (.long q2), .second] [(.int (1 : Int32)), (.int (1 : Int32)), (.ref a1)]
    refine go_irem 84 rfl d3_83 rfl (by decide) ?_
    show Go B3_6 Z a0 h0 _ 0 0 [ob a1 "com/example/offboard/offboard/fix/Throttle" [("com/example/offboard/offboard/fix/Throttle", "passed", "[J", (.ref a2)), ("com/example/offboard/offboard/fix/Throttle", "count", "I", (.int (1 : Int32))), ("com/example/offboard/offboard/fix/Throttle", "next", "I", (.int (0 : Int32)))], ar a2 .long [(.long q2)]] 84 #[.val (.ref a1), .val (.long q2), .second, .val (.long q2), .second] [(.int (0 : Int32)), (.ref a1)]
    refine go_put 0 2 87 rfl d3_84 rfl rfl rfl (wd hw 19 rfl) (Or.inl (wd hw 20 rfl)) (wd hw 1 rfl) (ty := .int) (by decide) rfl rfl ?_
    show Go B3_6 Z a0 h0 _ 0 0 [ob a1 "com/example/offboard/offboard/fix/Throttle" [("com/example/offboard/offboard/fix/Throttle", "passed", "[J", (.ref a2)), ("com/example/offboard/offboard/fix/Throttle", "count", "I", (.int (1 : Int32))), ("com/example/offboard/offboard/fix/Throttle", "next", "I", (.int (0 : Int32)))], ar a2 .long [(.long q2)]] 87 #[.val (.ref a1), .val (.long q2), .second, .val (.long q2), .second] []
    refine go_lloadN 88 rfl d3_87 rfl ?_
    exact go_lreturn d3_88 rfl rfl (by decide) (by decide) (by unfold Ret; rw [lt1_pos hc44_6]; exact ⟨rfl, rfl⟩)
  · refine go_aloadN 48 rfl d3_47 rfl rfl ?_
    refine go_get 0 0 51 rfl d3_48 rfl rfl rfl (wd hw 10 rfl) ?_
    refine go_aloadN 52 rfl d3_51 rfl rfl ?_
    refine go_get 0 2 55 rfl d3_52 rfl rfl rfl (wd hw 19 rfl) ?_
    refine go_laload 56 rfl d3_55 rfl (Mo.el (i := 1) rfl (by decide) rfl) ?_
    refine go_getS 59 rfl d3_56 (wd hw 21 rfl) SW ?_
    refine go_ladd 60 rfl d3_59 rfl ?_
    refine go_lstoreN #[.val (.ref a1), .val (.long q2), .second, .val (.long ((lt1 q0 q1) + (1000000000 : Int64))), .second] 61 rfl d3_60 rfl rfl ?_
    refine go_aloadN 62 rfl d3_61 rfl rfl ?_
    refine go_get 0 0 65 rfl d3_62 rfl rfl rfl (wd hw 10 rfl) ?_
    refine go_aloadN 66 rfl d3_65 rfl rfl ?_
    refine go_get 0 2 69 rfl d3_66 rfl rfl rfl (wd hw 19 rfl) ?_
    refine go_lloadN 70 rfl d3_69 rfl ?_
    refine go_lastore 1 71 rfl d3_70 rfl rfl (by decide) (Nat.le_of_ble_eq_true rfl) ?_
    show Go B3_6 Z a0 h0 _ 0 0 [ob a1 "com/example/offboard/offboard/fix/Throttle" [("com/example/offboard/offboard/fix/Throttle", "passed", "[J", (.ref a2)), ("com/example/offboard/offboard/fix/Throttle", "count", "I", (.int (1 : Int32))), ("com/example/offboard/offboard/fix/Throttle", "next", "I", (.int (0 : Int32)))], ar a2 .long [(.long ((lt1 q0 q1) + (1000000000 : Int64)))]] 71 #[.val (.ref a1), .val (.long q2), .second, .val (.long ((lt1 q0 q1) + (1000000000 : Int64))), .second] []
    refine go_aloadN 72 rfl d3_71 rfl rfl ?_
    refine go_aloadN 73 rfl d3_72 rfl rfl ?_
    refine go_get 0 2 76 rfl d3_73 rfl rfl rfl (wd hw 19 rfl) ?_
    refine go_iconst (1 : Int32) 77 rfl d3_76 rfl ?_
    refine go_iadd 78 rfl d3_77 rfl ?_
    show Go B3_6 Z a0 h0 _ 0 0 [ob a1 "com/example/offboard/offboard/fix/Throttle" [("com/example/offboard/offboard/fix/Throttle", "passed", "[J", (.ref a2)), ("com/example/offboard/offboard/fix/Throttle", "count", "I", (.int (1 : Int32))), ("com/example/offboard/offboard/fix/Throttle", "next", "I", (.int (0 : Int32)))], ar a2 .long [(.long ((lt1 q0 q1) + (1000000000 : Int64)))]] 78 #[.val (.ref a1), .val (.long q2), .second, .val (.long ((lt1 q0 q1) + (1000000000 : Int64))), .second] [(.int (1 : Int32)), (.ref a1)]
    refine go_aloadN 79 rfl d3_78 rfl rfl ?_
    refine go_get 0 0 82 rfl d3_79 rfl rfl rfl (wd hw 10 rfl) ?_
    refine go_alen 1 83 rfl d3_82 rfl rfl ?_
    show Go B3_6 Z a0 h0 _ 0 0 [ob a1 "com/example/offboard/offboard/fix/Throttle" [("com/example/offboard/offboard/fix/Throttle", "passed", "[J", (.ref a2)), ("com/example/offboard/offboard/fix/Throttle", "count", "I", (.int (1 : Int32))), ("com/example/offboard/offboard/fix/Throttle", "next", "I", (.int (0 : Int32)))], ar a2 .long [(.long ((lt1 q0 q1) + (1000000000 : Int64)))]] 83 #[.val (.ref a1), .val (.long q2), .second, .val (.long ((lt1 q0 q1) + (1000000000 : Int64))), .second] [(.int (1 : Int32)), (.int (1 : Int32)), (.ref a1)]
    refine go_irem 84 rfl d3_83 rfl (by decide) ?_
    show Go B3_6 Z a0 h0 _ 0 0 [ob a1 "com/example/offboard/offboard/fix/Throttle" [("com/example/offboard/offboard/fix/Throttle", "passed", "[J", (.ref a2)), ("com/example/offboard/offboard/fix/Throttle", "count", "I", (.int (1 : Int32))), ("com/example/offboard/offboard/fix/Throttle", "next", "I", (.int (0 : Int32)))], ar a2 .long [(.long ((lt1 q0 q1) + (1000000000 : Int64)))]] 84 #[.val (.ref a1), .val (.long q2), .second, .val (.long ((lt1 q0 q1) + (1000000000 : Int64))), .second] [(.int (0 : Int32)), (.ref a1)]
    refine go_put 0 2 87 rfl d3_84 rfl rfl rfl (wd hw 19 rfl) (Or.inl (wd hw 20 rfl)) (wd hw 1 rfl) (ty := .int) (by decide) rfl rfl ?_
    show Go B3_6 Z a0 h0 _ 0 0 [ob a1 "com/example/offboard/offboard/fix/Throttle" [("com/example/offboard/offboard/fix/Throttle", "passed", "[J", (.ref a2)), ("com/example/offboard/offboard/fix/Throttle", "count", "I", (.int (1 : Int32))), ("com/example/offboard/offboard/fix/Throttle", "next", "I", (.int (0 : Int32)))], ar a2 .long [(.long ((lt1 q0 q1) + (1000000000 : Int64)))]] 87 #[.val (.ref a1), .val (.long q2), .second, .val (.long ((lt1 q0 q1) + (1000000000 : Int64))), .second] []
    refine go_lloadN 88 rfl d3_87 rfl ?_
    exact go_lreturn d3_88 rfl rfl (by decide) (by decide) (by unfold Ret; rw [lt1_neg hc44_6]; exact ⟨rfl, rfl⟩)
def B3_8 : Bdy := (⟨"com/example/offboard/offboard/fix/Throttle", "pass", "(J)J"⟩, prog_83_method_2_code, 5, (some .long), ({ frames := 0, cells := 0, slots := 0, locals := 0 } : Room))
set_option maxRecDepth 65536 in
set_option maxHeartbeats 4000000 in
theorem mt8 (Z : State) (a0 : Array Value) (hw : ∀ d ∈ tables_1, d.before a0 Z = true) (h0 : Heap) (SW : Sta Z h0 "com/example/offboard/offboard/fix/Throttle" "WINDOW_NANOS" "J" (.long 1000000000)) (a1 : Addr) (a2 : Addr) (q0 : Int64) (q1 : Int64) (q2 : Int64) (q3 : Int64) :
    Met B3_8 Z a0 h0 #[(.ref a1), (.long q3)] [ob a1 "com/example/offboard/offboard/fix/Throttle" [("com/example/offboard/offboard/fix/Throttle", "passed", "[J", (.ref a2)), ("com/example/offboard/offboard/fix/Throttle", "count", "I", (.int (1 : Int32))), ("com/example/offboard/offboard/fix/Throttle", "next", "I", (.int (0 : Int32)))], ar a2 .long [(.long (lt1 (lt1 q0 q1) q2))]] (Ret (some (.long (lt1 (lt1 (lt1 q0 q1) q2) q3))) [ob a1 "com/example/offboard/offboard/fix/Throttle" [("com/example/offboard/offboard/fix/Throttle", "passed", "[J", (.ref a2)), ("com/example/offboard/offboard/fix/Throttle", "count", "I", (.int (1 : Int32))), ("com/example/offboard/offboard/fix/Throttle", "next", "I", (.int (0 : Int32)))], ar a2 .long [(.long (lt1 (lt1 (lt1 q0 q1) q2) q3))]]) := by
  refine Met.of pn3 (ls := #[.val (.ref a1), .val (.long q3), .second, .unset, .unset]) (fun m => by first | (simp [entryFrame, mkF, argsToLocals, Value.category, B3_8]; done) | rfl) ?_
  show Go B3_8 Z a0 h0 _ 0 0 [ob a1 "com/example/offboard/offboard/fix/Throttle" [("com/example/offboard/offboard/fix/Throttle", "passed", "[J", (.ref a2)), ("com/example/offboard/offboard/fix/Throttle", "count", "I", (.int (1 : Int32))), ("com/example/offboard/offboard/fix/Throttle", "next", "I", (.int (0 : Int32)))], ar a2 .long [(.long (lt1 (lt1 q0 q1) q2))]] 0 #[.val (.ref a1), .val (.long q3), .second, .unset, .unset] []
  refine go_lloadN 1 rfl d3_0 rfl ?_
  refine go_lstoreN #[.val (.ref a1), .val (.long q3), .second, .val (.long q3), .second] 2 rfl d3_1 rfl rfl ?_
  refine go_aloadN 3 rfl d3_2 rfl rfl ?_
  refine go_get 0 1 6 rfl d3_3 rfl rfl rfl (wd hw 17 rfl) ?_
  refine go_aloadN 7 rfl d3_6 rfl rfl ?_
  refine go_get 0 0 10 rfl d3_7 rfl rfl rfl (wd hw 10 rfl) ?_
  refine go_alen 1 11 rfl d3_10 rfl rfl ?_
  show Go B3_8 Z a0 h0 _ 0 0 [ob a1 "com/example/offboard/offboard/fix/Throttle" [("com/example/offboard/offboard/fix/Throttle", "passed", "[J", (.ref a2)), ("com/example/offboard/offboard/fix/Throttle", "count", "I", (.int (1 : Int32))), ("com/example/offboard/offboard/fix/Throttle", "next", "I", (.int (0 : Int32)))], ar a2 .long [(.long (lt1 (lt1 q0 q1) q2))]] 11 #[.val (.ref a1), .val (.long q3), .second, .val (.long q3), .second] [(.int (1 : Int32)), (.int (1 : Int32))]
  refine go_icmp 27 14 rfl (by decide) rfl d3_11 rfl (fun (hc11 : (1 : Int) ≤ (1 : Int)) => ?_) (fun (hc11 : ¬ ((1 : Int) ≤ (1 : Int))) => absurd hc11 (by decide))
  refine go_aloadN 28 rfl d3_27 rfl rfl ?_
  refine go_get 0 0 31 rfl d3_28 rfl rfl rfl (wd hw 10 rfl) ?_
  refine go_aloadN 32 rfl d3_31 rfl rfl ?_
  refine go_get 0 2 35 rfl d3_32 rfl rfl rfl (wd hw 19 rfl) ?_
  refine go_laload 36 rfl d3_35 rfl (Mo.el (i := 1) rfl (by decide) rfl) ?_
  refine go_getS 39 rfl d3_36 (wd hw 21 rfl) SW ?_
  refine go_ladd 40 rfl d3_39 rfl ?_
  refine go_lloadN 41 rfl d3_40 rfl ?_
  refine go_lsub 42 rfl d3_41 rfl ?_
  refine go_lconst (0 : Int64) 43 rfl d3_42 rfl ?_
  refine go_lcmp 44 rfl d3_43 rfl ?_
  refine go_if 61 47 rfl (by decide) rfl d3_44 rfl (fun (hc44_8 : (lcmpW (((lt1 (lt1 q0 q1) q2) + (1000000000 : Int64)) - q3) (0 : Int64)).toInt ≤ 0) => ?_) (fun (hc44_8 : ¬ ((lcmpW (((lt1 (lt1 q0 q1) q2) + (1000000000 : Int64)) - q3) (0 : Int64)).toInt ≤ 0)) => ?_)
  · refine go_aloadN 62 rfl d3_61 rfl rfl ?_
    refine go_get 0 0 65 rfl d3_62 rfl rfl rfl (wd hw 10 rfl) ?_
    refine go_aloadN 66 rfl d3_65 rfl rfl ?_
    refine go_get 0 2 69 rfl d3_66 rfl rfl rfl (wd hw 19 rfl) ?_
    refine go_lloadN 70 rfl d3_69 rfl ?_
    refine go_lastore 1 71 rfl d3_70 rfl rfl (by decide) (Nat.le_of_ble_eq_true rfl) ?_
    show Go B3_8 Z a0 h0 _ 0 0 [ob a1 "com/example/offboard/offboard/fix/Throttle" [("com/example/offboard/offboard/fix/Throttle", "passed", "[J", (.ref a2)), ("com/example/offboard/offboard/fix/Throttle", "count", "I", (.int (1 : Int32))), ("com/example/offboard/offboard/fix/Throttle", "next", "I", (.int (0 : Int32)))], ar a2 .long [(.long q3)]] 71 #[.val (.ref a1), .val (.long q3), .second, .val (.long q3), .second] []
    refine go_aloadN 72 rfl d3_71 rfl rfl ?_
    refine go_aloadN 73 rfl d3_72 rfl rfl ?_
    refine go_get 0 2 76 rfl d3_73 rfl rfl rfl (wd hw 19 rfl) ?_
    refine go_iconst (1 : Int32) 77 rfl d3_76 rfl ?_
    refine go_iadd 78 rfl d3_77 rfl ?_
    show Go B3_8 Z a0 h0 _ 0 0 [ob a1 "com/example/offboard/offboard/fix/Throttle" [("com/example/offboard/offboard/fix/Throttle", "passed", "[J", (.ref a2)), ("com/example/offboard/offboard/fix/Throttle", "count", "I", (.int (1 : Int32))), ("com/example/offboard/offboard/fix/Throttle", "next", "I", (.int (0 : Int32)))], ar a2 .long [(.long q3)]] 78 #[.val (.ref a1), .val (.long q3), .second, .val (.long q3), .second] [(.int (1 : Int32)), (.ref a1)]
    refine go_aloadN 79 rfl d3_78 rfl rfl ?_
    refine go_get 0 0 82 rfl d3_79 rfl rfl rfl (wd hw 10 rfl) ?_
    refine go_alen 1 83 rfl d3_82 rfl rfl ?_
    show Go B3_8 Z a0 h0 _ 0 0 [ob a1 "com/example/offboard/offboard/fix/Throttle" [("com/example/offboard/offboard/fix/Throttle", "passed", "[J", (.ref a2)), ("com/example/offboard/offboard/fix/Throttle", "count", "I", (.int (1 : Int32))), ("com/example/offboard/offboard/fix/Throttle", "next", "I", (.int (0 : Int32)))], ar a2 .long [(.long q3)]] 83 #[.val (.ref a1), .val (.long q3), .second, .val (.long q3), .second] [(.int (1 : Int32)), (.int (1 : Int32)), (.ref a1)]
    refine go_irem 84 rfl d3_83 rfl (by decide) ?_
    show Go B3_8 Z a0 h0 _ 0 0 [ob a1 "com/example/offboard/offboard/fix/Throttle" [("com/example/offboard/offboard/fix/Throttle", "passed", "[J", (.ref a2)), ("com/example/offboard/offboard/fix/Throttle", "count", "I", (.int (1 : Int32))), ("com/example/offboard/offboard/fix/Throttle", "next", "I", (.int (0 : Int32)))], ar a2 .long [(.long q3)]] 84 #[.val (.ref a1), .val (.long q3), .second, .val (.long q3), .second] [(.int (0 : Int32)), (.ref a1)]
    refine go_put 0 2 87 rfl d3_84 rfl rfl rfl (wd hw 19 rfl) (Or.inl (wd hw 20 rfl)) (wd hw 1 rfl) (ty := .int) (by decide) rfl rfl ?_
    show Go B3_8 Z a0 h0 _ 0 0 [ob a1 "com/example/offboard/offboard/fix/Throttle" [("com/example/offboard/offboard/fix/Throttle", "passed", "[J", (.ref a2)), ("com/example/offboard/offboard/fix/Throttle", "count", "I", (.int (1 : Int32))), ("com/example/offboard/offboard/fix/Throttle", "next", "I", (.int (0 : Int32)))], ar a2 .long [(.long q3)]] 87 #[.val (.ref a1), .val (.long q3), .second, .val (.long q3), .second] []
    refine go_lloadN 88 rfl d3_87 rfl ?_
    exact go_lreturn d3_88 rfl rfl (by decide) (by decide) (by unfold Ret; rw [lt1_pos hc44_8]; exact ⟨rfl, rfl⟩)
  · refine go_aloadN 48 rfl d3_47 rfl rfl ?_
    refine go_get 0 0 51 rfl d3_48 rfl rfl rfl (wd hw 10 rfl) ?_
    refine go_aloadN 52 rfl d3_51 rfl rfl ?_
    refine go_get 0 2 55 rfl d3_52 rfl rfl rfl (wd hw 19 rfl) ?_
    refine go_laload 56 rfl d3_55 rfl (Mo.el (i := 1) rfl (by decide) rfl) ?_
    refine go_getS 59 rfl d3_56 (wd hw 21 rfl) SW ?_
    refine go_ladd 60 rfl d3_59 rfl ?_
    refine go_lstoreN #[.val (.ref a1), .val (.long q3), .second, .val (.long ((lt1 (lt1 q0 q1) q2) + (1000000000 : Int64))), .second] 61 rfl d3_60 rfl rfl ?_
    refine go_aloadN 62 rfl d3_61 rfl rfl ?_
    refine go_get 0 0 65 rfl d3_62 rfl rfl rfl (wd hw 10 rfl) ?_
    refine go_aloadN 66 rfl d3_65 rfl rfl ?_
    refine go_get 0 2 69 rfl d3_66 rfl rfl rfl (wd hw 19 rfl) ?_
    refine go_lloadN 70 rfl d3_69 rfl ?_
    refine go_lastore 1 71 rfl d3_70 rfl rfl (by decide) (Nat.le_of_ble_eq_true rfl) ?_
    show Go B3_8 Z a0 h0 _ 0 0 [ob a1 "com/example/offboard/offboard/fix/Throttle" [("com/example/offboard/offboard/fix/Throttle", "passed", "[J", (.ref a2)), ("com/example/offboard/offboard/fix/Throttle", "count", "I", (.int (1 : Int32))), ("com/example/offboard/offboard/fix/Throttle", "next", "I", (.int (0 : Int32)))], ar a2 .long [(.long ((lt1 (lt1 q0 q1) q2) + (1000000000 : Int64)))]] 71 #[.val (.ref a1), .val (.long q3), .second, .val (.long ((lt1 (lt1 q0 q1) q2) + (1000000000 : Int64))), .second] []
    refine go_aloadN 72 rfl d3_71 rfl rfl ?_
    refine go_aloadN 73 rfl d3_72 rfl rfl ?_
    refine go_get 0 2 76 rfl d3_73 rfl rfl rfl (wd hw 19 rfl) ?_
    refine go_iconst (1 : Int32) 77 rfl d3_76 rfl ?_
    refine go_iadd 78 rfl d3_77 rfl ?_
    show Go B3_8 Z a0 h0 _ 0 0 [ob a1 "com/example/offboard/offboard/fix/Throttle" [("com/example/offboard/offboard/fix/Throttle", "passed", "[J", (.ref a2)), ("com/example/offboard/offboard/fix/Throttle", "count", "I", (.int (1 : Int32))), ("com/example/offboard/offboard/fix/Throttle", "next", "I", (.int (0 : Int32)))], ar a2 .long [(.long ((lt1 (lt1 q0 q1) q2) + (1000000000 : Int64)))]] 78 #[.val (.ref a1), .val (.long q3), .second, .val (.long ((lt1 (lt1 q0 q1) q2) + (1000000000 : Int64))), .second] [(.int (1 : Int32)), (.ref a1)]
    refine go_aloadN 79 rfl d3_78 rfl rfl ?_
    refine go_get 0 0 82 rfl d3_79 rfl rfl rfl (wd hw 10 rfl) ?_
    refine go_alen 1 83 rfl d3_82 rfl rfl ?_
    show Go B3_8 Z a0 h0 _ 0 0 [ob a1 "com/example/offboard/offboard/fix/Throttle" [("com/example/offboard/offboard/fix/Throttle", "passed", "[J", (.ref a2)), ("com/example/offboard/offboard/fix/Throttle", "count", "I", (.int (1 : Int32))), ("com/example/offboard/offboard/fix/Throttle", "next", "I", (.int (0 : Int32)))], ar a2 .long [(.long ((lt1 (lt1 q0 q1) q2) + (1000000000 : Int64)))]] 83 #[.val (.ref a1), .val (.long q3), .second, .val (.long ((lt1 (lt1 q0 q1) q2) + (1000000000 : Int64))), .second] [(.int (1 : Int32)), (.int (1 : Int32)), (.ref a1)]
    refine go_irem 84 rfl d3_83 rfl (by decide) ?_
    show Go B3_8 Z a0 h0 _ 0 0 [ob a1 "com/example/offboard/offboard/fix/Throttle" [("com/example/offboard/offboard/fix/Throttle", "passed", "[J", (.ref a2)), ("com/example/offboard/offboard/fix/Throttle", "count", "I", (.int (1 : Int32))), ("com/example/offboard/offboard/fix/Throttle", "next", "I", (.int (0 : Int32)))], ar a2 .long [(.long ((lt1 (lt1 q0 q1) q2) + (1000000000 : Int64)))]] 84 #[.val (.ref a1), .val (.long q3), .second, .val (.long ((lt1 (lt1 q0 q1) q2) + (1000000000 : Int64))), .second] [(.int (0 : Int32)), (.ref a1)]
    refine go_put 0 2 87 rfl d3_84 rfl rfl rfl (wd hw 19 rfl) (Or.inl (wd hw 20 rfl)) (wd hw 1 rfl) (ty := .int) (by decide) rfl rfl ?_
    show Go B3_8 Z a0 h0 _ 0 0 [ob a1 "com/example/offboard/offboard/fix/Throttle" [("com/example/offboard/offboard/fix/Throttle", "passed", "[J", (.ref a2)), ("com/example/offboard/offboard/fix/Throttle", "count", "I", (.int (1 : Int32))), ("com/example/offboard/offboard/fix/Throttle", "next", "I", (.int (0 : Int32)))], ar a2 .long [(.long ((lt1 (lt1 q0 q1) q2) + (1000000000 : Int64)))]] 87 #[.val (.ref a1), .val (.long q3), .second, .val (.long ((lt1 (lt1 q0 q1) q2) + (1000000000 : Int64))), .second] []
    refine go_lloadN 88 rfl d3_87 rfl ?_
    exact go_lreturn d3_88 rfl rfl (by decide) (by decide) (by unfold Ret; rw [lt1_neg hc44_8]; exact ⟨rfl, rfl⟩)
def B1_10 : Bdy := (⟨"com/example/offboard/offboard/fix/Throttle", "<init>", "(I)V"⟩, prog_83_method_1_code, 2, none, ({ frames := 1, cells := 1, slots := 2, locals := 12 } : Room))
set_option maxRecDepth 65536 in
set_option maxHeartbeats 4000000 in
theorem mt10 (Z : State) (a0 : Array Value) (hw : ∀ d ∈ tables_1, d.before a0 Z = true) (h0 : Heap) (SW : Sta Z h0 "com/example/offboard/offboard/fix/Throttle" "WINDOW_NANOS" "J" (.long 1000000000)) (a3 : Addr) :
    Met B1_10 Z a0 h0 #[(.ref a3), (.int (2 : Int32))] [ob a3 "com/example/offboard/offboard/fix/Throttle" [("com/example/offboard/offboard/fix/Throttle", "passed", "[J", .null), ("com/example/offboard/offboard/fix/Throttle", "count", "I", (.int (0 : Int32))), ("com/example/offboard/offboard/fix/Throttle", "next", "I", (.int (0 : Int32)))]] (fun v ds => ∃ a104 : Addr, Ret none [ob a3 "com/example/offboard/offboard/fix/Throttle" [("com/example/offboard/offboard/fix/Throttle", "passed", "[J", (.ref a104)), ("com/example/offboard/offboard/fix/Throttle", "count", "I", (.int (0 : Int32))), ("com/example/offboard/offboard/fix/Throttle", "next", "I", (.int (0 : Int32)))], ar a104 .long [(.long (0 : Int64)), (.long (0 : Int64))]] v ds) := by
  refine Met.of pn1 (ls := #[.val (.ref a3), .val (.int (2 : Int32))]) (fun m => by first | (simp [entryFrame, mkF, argsToLocals, Value.category, B1_10]; done) | rfl) ?_
  show Go B1_10 Z a0 h0 _ 0 0 [ob a3 "com/example/offboard/offboard/fix/Throttle" [("com/example/offboard/offboard/fix/Throttle", "passed", "[J", .null), ("com/example/offboard/offboard/fix/Throttle", "count", "I", (.int (0 : Int32))), ("com/example/offboard/offboard/fix/Throttle", "next", "I", (.int (0 : Int32)))]] 0 #[.val (.ref a3), .val (.int (2 : Int32))] []
  refine go_aloadN 1 rfl d1_0 rfl rfl ?_
  refine go_initObj 4 rfl d1_1 rfl (wd hw 6 rfl) (wd hw 7 rfl) (wd hw 8 rfl) rfl (by decide) (by decide) ?_
  refine go_iloadN 5 rfl d1_4 rfl ?_
  refine go_if 22 8 rfl (by decide) rfl d1_5 rfl (fun (hc5 : 0 < (2 : Int)) => ?_) (fun (hc5 : ¬ (0 < (2 : Int))) => absurd hc5 (by decide))
  refine go_aloadN 23 rfl d1_22 rfl rfl ?_
  refine go_iloadN 24 rfl d1_23 rfl ?_
  refine go_newarr 26 rfl d1_24 rfl (wd hw 9 rfl) (by decide) 2 (by decide) (by decide) (by decide) (by decide) (fun a104 => ?_)
  show Go B1_10 Z a0 h0 _ 1 2 [ob a3 "com/example/offboard/offboard/fix/Throttle" [("com/example/offboard/offboard/fix/Throttle", "passed", "[J", .null), ("com/example/offboard/offboard/fix/Throttle", "count", "I", (.int (0 : Int32))), ("com/example/offboard/offboard/fix/Throttle", "next", "I", (.int (0 : Int32)))], ar a104 .long [(.long (0 : Int64)), (.long (0 : Int64))]] 26 #[.val (.ref a3), .val (.int (2 : Int32))] [(.ref a104), (.ref a3)]
  refine go_put 0 0 29 rfl d1_26 rfl rfl rfl (wd hw 10 rfl) (Or.inr ⟨(wd hw 11 rfl), rfl, rfl⟩) (wd hw 1 rfl) (ty := (.array .long)) (by decide) rfl rfl ?_
  show Go B1_10 Z a0 h0 _ 1 2 [ob a3 "com/example/offboard/offboard/fix/Throttle" [("com/example/offboard/offboard/fix/Throttle", "passed", "[J", (.ref a104)), ("com/example/offboard/offboard/fix/Throttle", "count", "I", (.int (0 : Int32))), ("com/example/offboard/offboard/fix/Throttle", "next", "I", (.int (0 : Int32)))], ar a104 .long [(.long (0 : Int64)), (.long (0 : Int64))]] 29 #[.val (.ref a3), .val (.int (2 : Int32))] []
  exact go_return d1_29 rfl rfl (by decide) (by decide) ⟨a104, rfl, rfl⟩
def B3_11 : Bdy := (⟨"com/example/offboard/offboard/fix/Throttle", "pass", "(J)J"⟩, prog_83_method_2_code, 5, (some .long), ({ frames := 0, cells := 0, slots := 0, locals := 0 } : Room))
set_option maxRecDepth 65536 in
set_option maxHeartbeats 4000000 in
theorem mt11 (Z : State) (a0 : Array Value) (hw : ∀ d ∈ tables_1, d.before a0 Z = true) (h0 : Heap) (SW : Sta Z h0 "com/example/offboard/offboard/fix/Throttle" "WINDOW_NANOS" "J" (.long 1000000000)) (a3 : Addr) (a4 : Addr) (q0 : Int64) :
    Met B3_11 Z a0 h0 #[(.ref a3), (.long q0)] [ob a3 "com/example/offboard/offboard/fix/Throttle" [("com/example/offboard/offboard/fix/Throttle", "passed", "[J", (.ref a4)), ("com/example/offboard/offboard/fix/Throttle", "count", "I", (.int (0 : Int32))), ("com/example/offboard/offboard/fix/Throttle", "next", "I", (.int (0 : Int32)))], ar a4 .long [(.long (0 : Int64)), (.long (0 : Int64))]] (Ret (some (.long q0)) [ob a3 "com/example/offboard/offboard/fix/Throttle" [("com/example/offboard/offboard/fix/Throttle", "passed", "[J", (.ref a4)), ("com/example/offboard/offboard/fix/Throttle", "count", "I", (.int (1 : Int32))), ("com/example/offboard/offboard/fix/Throttle", "next", "I", (.int (1 : Int32)))], ar a4 .long [(.long q0), (.long (0 : Int64))]]) := by
  refine Met.of pn3 (ls := #[.val (.ref a3), .val (.long q0), .second, .unset, .unset]) (fun m => by first | (simp [entryFrame, mkF, argsToLocals, Value.category, B3_11]; done) | rfl) ?_
  show Go B3_11 Z a0 h0 _ 0 0 [ob a3 "com/example/offboard/offboard/fix/Throttle" [("com/example/offboard/offboard/fix/Throttle", "passed", "[J", (.ref a4)), ("com/example/offboard/offboard/fix/Throttle", "count", "I", (.int (0 : Int32))), ("com/example/offboard/offboard/fix/Throttle", "next", "I", (.int (0 : Int32)))], ar a4 .long [(.long (0 : Int64)), (.long (0 : Int64))]] 0 #[.val (.ref a3), .val (.long q0), .second, .unset, .unset] []
  refine go_lloadN 1 rfl d3_0 rfl ?_
  refine go_lstoreN #[.val (.ref a3), .val (.long q0), .second, .val (.long q0), .second] 2 rfl d3_1 rfl rfl ?_
  refine go_aloadN 3 rfl d3_2 rfl rfl ?_
  refine go_get 0 1 6 rfl d3_3 rfl rfl rfl (wd hw 17 rfl) ?_
  refine go_aloadN 7 rfl d3_6 rfl rfl ?_
  refine go_get 0 0 10 rfl d3_7 rfl rfl rfl (wd hw 10 rfl) ?_
  refine go_alen 1 11 rfl d3_10 rfl rfl ?_
  show Go B3_11 Z a0 h0 _ 0 0 [ob a3 "com/example/offboard/offboard/fix/Throttle" [("com/example/offboard/offboard/fix/Throttle", "passed", "[J", (.ref a4)), ("com/example/offboard/offboard/fix/Throttle", "count", "I", (.int (0 : Int32))), ("com/example/offboard/offboard/fix/Throttle", "next", "I", (.int (0 : Int32)))], ar a4 .long [(.long (0 : Int64)), (.long (0 : Int64))]] 11 #[.val (.ref a3), .val (.long q0), .second, .val (.long q0), .second] [(.int (2 : Int32)), (.int (0 : Int32))]
  refine go_icmp 27 14 rfl (by decide) rfl d3_11 rfl (fun (hc11 : (2 : Int) ≤ (0 : Int)) => absurd hc11 (by decide)) (fun (hc11 : ¬ ((2 : Int) ≤ (0 : Int))) => ?_)
  refine go_aloadN 15 rfl d3_14 rfl rfl ?_
  refine go_dup 16 rfl d3_15 rfl rfl ?_
  refine go_get 0 1 19 rfl d3_16 rfl rfl rfl (wd hw 17 rfl) ?_
  refine go_iconst (1 : Int32) 20 rfl d3_19 rfl ?_
  refine go_iadd 21 rfl d3_20 rfl ?_
  show Go B3_11 Z a0 h0 _ 0 0 [ob a3 "com/example/offboard/offboard/fix/Throttle" [("com/example/offboard/offboard/fix/Throttle", "passed", "[J", (.ref a4)), ("com/example/offboard/offboard/fix/Throttle", "count", "I", (.int (0 : Int32))), ("com/example/offboard/offboard/fix/Throttle", "next", "I", (.int (0 : Int32)))], ar a4 .long [(.long (0 : Int64)), (.long (0 : Int64))]] 21 #[.val (.ref a3), .val (.long q0), .second, .val (.long q0), .second] [(.int (1 : Int32)), (.ref a3)]
  refine go_put 0 1 24 rfl d3_21 rfl rfl rfl (wd hw 17 rfl) (Or.inl (wd hw 18 rfl)) (wd hw 1 rfl) (ty := .int) (by decide) rfl rfl ?_
  show Go B3_11 Z a0 h0 _ 0 0 [ob a3 "com/example/offboard/offboard/fix/Throttle" [("com/example/offboard/offboard/fix/Throttle", "passed", "[J", (.ref a4)), ("com/example/offboard/offboard/fix/Throttle", "count", "I", (.int (1 : Int32))), ("com/example/offboard/offboard/fix/Throttle", "next", "I", (.int (0 : Int32)))], ar a4 .long [(.long (0 : Int64)), (.long (0 : Int64))]] 24 #[.val (.ref a3), .val (.long q0), .second, .val (.long q0), .second] []
  refine go_goto 61 (by decide) rfl d3_24 ?_
  refine go_aloadN 62 rfl d3_61 rfl rfl ?_
  refine go_get 0 0 65 rfl d3_62 rfl rfl rfl (wd hw 10 rfl) ?_
  refine go_aloadN 66 rfl d3_65 rfl rfl ?_
  refine go_get 0 2 69 rfl d3_66 rfl rfl rfl (wd hw 19 rfl) ?_
  refine go_lloadN 70 rfl d3_69 rfl ?_
  refine go_lastore 1 71 rfl d3_70 rfl rfl (by decide) (Nat.le_of_ble_eq_true rfl) ?_
  show Go B3_11 Z a0 h0 _ 0 0 [ob a3 "com/example/offboard/offboard/fix/Throttle" [("com/example/offboard/offboard/fix/Throttle", "passed", "[J", (.ref a4)), ("com/example/offboard/offboard/fix/Throttle", "count", "I", (.int (1 : Int32))), ("com/example/offboard/offboard/fix/Throttle", "next", "I", (.int (0 : Int32)))], ar a4 .long [(.long q0), (.long (0 : Int64))]] 71 #[.val (.ref a3), .val (.long q0), .second, .val (.long q0), .second] []
  refine go_aloadN 72 rfl d3_71 rfl rfl ?_
  refine go_aloadN 73 rfl d3_72 rfl rfl ?_
  refine go_get 0 2 76 rfl d3_73 rfl rfl rfl (wd hw 19 rfl) ?_
  refine go_iconst (1 : Int32) 77 rfl d3_76 rfl ?_
  refine go_iadd 78 rfl d3_77 rfl ?_
  show Go B3_11 Z a0 h0 _ 0 0 [ob a3 "com/example/offboard/offboard/fix/Throttle" [("com/example/offboard/offboard/fix/Throttle", "passed", "[J", (.ref a4)), ("com/example/offboard/offboard/fix/Throttle", "count", "I", (.int (1 : Int32))), ("com/example/offboard/offboard/fix/Throttle", "next", "I", (.int (0 : Int32)))], ar a4 .long [(.long q0), (.long (0 : Int64))]] 78 #[.val (.ref a3), .val (.long q0), .second, .val (.long q0), .second] [(.int (1 : Int32)), (.ref a3)]
  refine go_aloadN 79 rfl d3_78 rfl rfl ?_
  refine go_get 0 0 82 rfl d3_79 rfl rfl rfl (wd hw 10 rfl) ?_
  refine go_alen 1 83 rfl d3_82 rfl rfl ?_
  show Go B3_11 Z a0 h0 _ 0 0 [ob a3 "com/example/offboard/offboard/fix/Throttle" [("com/example/offboard/offboard/fix/Throttle", "passed", "[J", (.ref a4)), ("com/example/offboard/offboard/fix/Throttle", "count", "I", (.int (1 : Int32))), ("com/example/offboard/offboard/fix/Throttle", "next", "I", (.int (0 : Int32)))], ar a4 .long [(.long q0), (.long (0 : Int64))]] 83 #[.val (.ref a3), .val (.long q0), .second, .val (.long q0), .second] [(.int (2 : Int32)), (.int (1 : Int32)), (.ref a3)]
  refine go_irem 84 rfl d3_83 rfl (by decide) ?_
  show Go B3_11 Z a0 h0 _ 0 0 [ob a3 "com/example/offboard/offboard/fix/Throttle" [("com/example/offboard/offboard/fix/Throttle", "passed", "[J", (.ref a4)), ("com/example/offboard/offboard/fix/Throttle", "count", "I", (.int (1 : Int32))), ("com/example/offboard/offboard/fix/Throttle", "next", "I", (.int (0 : Int32)))], ar a4 .long [(.long q0), (.long (0 : Int64))]] 84 #[.val (.ref a3), .val (.long q0), .second, .val (.long q0), .second] [(.int (1 : Int32)), (.ref a3)]
  refine go_put 0 2 87 rfl d3_84 rfl rfl rfl (wd hw 19 rfl) (Or.inl (wd hw 20 rfl)) (wd hw 1 rfl) (ty := .int) (by decide) rfl rfl ?_
  show Go B3_11 Z a0 h0 _ 0 0 [ob a3 "com/example/offboard/offboard/fix/Throttle" [("com/example/offboard/offboard/fix/Throttle", "passed", "[J", (.ref a4)), ("com/example/offboard/offboard/fix/Throttle", "count", "I", (.int (1 : Int32))), ("com/example/offboard/offboard/fix/Throttle", "next", "I", (.int (1 : Int32)))], ar a4 .long [(.long q0), (.long (0 : Int64))]] 87 #[.val (.ref a3), .val (.long q0), .second, .val (.long q0), .second] []
  refine go_lloadN 88 rfl d3_87 rfl ?_
  exact go_lreturn d3_88 rfl rfl (by decide) (by decide) ⟨rfl, rfl⟩
def B3_12 : Bdy := (⟨"com/example/offboard/offboard/fix/Throttle", "pass", "(J)J"⟩, prog_83_method_2_code, 5, (some .long), ({ frames := 0, cells := 0, slots := 0, locals := 0 } : Room))
set_option maxRecDepth 65536 in
set_option maxHeartbeats 4000000 in
theorem mt12 (Z : State) (a0 : Array Value) (hw : ∀ d ∈ tables_1, d.before a0 Z = true) (h0 : Heap) (SW : Sta Z h0 "com/example/offboard/offboard/fix/Throttle" "WINDOW_NANOS" "J" (.long 1000000000)) (a3 : Addr) (a4 : Addr) (q0 : Int64) (q1 : Int64) :
    Met B3_12 Z a0 h0 #[(.ref a3), (.long q1)] [ob a3 "com/example/offboard/offboard/fix/Throttle" [("com/example/offboard/offboard/fix/Throttle", "passed", "[J", (.ref a4)), ("com/example/offboard/offboard/fix/Throttle", "count", "I", (.int (1 : Int32))), ("com/example/offboard/offboard/fix/Throttle", "next", "I", (.int (1 : Int32)))], ar a4 .long [(.long q0), (.long (0 : Int64))]] (Ret (some (.long q1)) [ob a3 "com/example/offboard/offboard/fix/Throttle" [("com/example/offboard/offboard/fix/Throttle", "passed", "[J", (.ref a4)), ("com/example/offboard/offboard/fix/Throttle", "count", "I", (.int (2 : Int32))), ("com/example/offboard/offboard/fix/Throttle", "next", "I", (.int (0 : Int32)))], ar a4 .long [(.long q0), (.long q1)]]) := by
  refine Met.of pn3 (ls := #[.val (.ref a3), .val (.long q1), .second, .unset, .unset]) (fun m => by first | (simp [entryFrame, mkF, argsToLocals, Value.category, B3_12]; done) | rfl) ?_
  show Go B3_12 Z a0 h0 _ 0 0 [ob a3 "com/example/offboard/offboard/fix/Throttle" [("com/example/offboard/offboard/fix/Throttle", "passed", "[J", (.ref a4)), ("com/example/offboard/offboard/fix/Throttle", "count", "I", (.int (1 : Int32))), ("com/example/offboard/offboard/fix/Throttle", "next", "I", (.int (1 : Int32)))], ar a4 .long [(.long q0), (.long (0 : Int64))]] 0 #[.val (.ref a3), .val (.long q1), .second, .unset, .unset] []
  refine go_lloadN 1 rfl d3_0 rfl ?_
  refine go_lstoreN #[.val (.ref a3), .val (.long q1), .second, .val (.long q1), .second] 2 rfl d3_1 rfl rfl ?_
  refine go_aloadN 3 rfl d3_2 rfl rfl ?_
  refine go_get 0 1 6 rfl d3_3 rfl rfl rfl (wd hw 17 rfl) ?_
  refine go_aloadN 7 rfl d3_6 rfl rfl ?_
  refine go_get 0 0 10 rfl d3_7 rfl rfl rfl (wd hw 10 rfl) ?_
  refine go_alen 1 11 rfl d3_10 rfl rfl ?_
  show Go B3_12 Z a0 h0 _ 0 0 [ob a3 "com/example/offboard/offboard/fix/Throttle" [("com/example/offboard/offboard/fix/Throttle", "passed", "[J", (.ref a4)), ("com/example/offboard/offboard/fix/Throttle", "count", "I", (.int (1 : Int32))), ("com/example/offboard/offboard/fix/Throttle", "next", "I", (.int (1 : Int32)))], ar a4 .long [(.long q0), (.long (0 : Int64))]] 11 #[.val (.ref a3), .val (.long q1), .second, .val (.long q1), .second] [(.int (2 : Int32)), (.int (1 : Int32))]
  refine go_icmp 27 14 rfl (by decide) rfl d3_11 rfl (fun (hc11 : (2 : Int) ≤ (1 : Int)) => absurd hc11 (by decide)) (fun (hc11 : ¬ ((2 : Int) ≤ (1 : Int))) => ?_)
  refine go_aloadN 15 rfl d3_14 rfl rfl ?_
  refine go_dup 16 rfl d3_15 rfl rfl ?_
  refine go_get 0 1 19 rfl d3_16 rfl rfl rfl (wd hw 17 rfl) ?_
  refine go_iconst (1 : Int32) 20 rfl d3_19 rfl ?_
  refine go_iadd 21 rfl d3_20 rfl ?_
  show Go B3_12 Z a0 h0 _ 0 0 [ob a3 "com/example/offboard/offboard/fix/Throttle" [("com/example/offboard/offboard/fix/Throttle", "passed", "[J", (.ref a4)), ("com/example/offboard/offboard/fix/Throttle", "count", "I", (.int (1 : Int32))), ("com/example/offboard/offboard/fix/Throttle", "next", "I", (.int (1 : Int32)))], ar a4 .long [(.long q0), (.long (0 : Int64))]] 21 #[.val (.ref a3), .val (.long q1), .second, .val (.long q1), .second] [(.int (2 : Int32)), (.ref a3)]
  refine go_put 0 1 24 rfl d3_21 rfl rfl rfl (wd hw 17 rfl) (Or.inl (wd hw 18 rfl)) (wd hw 1 rfl) (ty := .int) (by decide) rfl rfl ?_
  show Go B3_12 Z a0 h0 _ 0 0 [ob a3 "com/example/offboard/offboard/fix/Throttle" [("com/example/offboard/offboard/fix/Throttle", "passed", "[J", (.ref a4)), ("com/example/offboard/offboard/fix/Throttle", "count", "I", (.int (2 : Int32))), ("com/example/offboard/offboard/fix/Throttle", "next", "I", (.int (1 : Int32)))], ar a4 .long [(.long q0), (.long (0 : Int64))]] 24 #[.val (.ref a3), .val (.long q1), .second, .val (.long q1), .second] []
  refine go_goto 61 (by decide) rfl d3_24 ?_
  refine go_aloadN 62 rfl d3_61 rfl rfl ?_
  refine go_get 0 0 65 rfl d3_62 rfl rfl rfl (wd hw 10 rfl) ?_
  refine go_aloadN 66 rfl d3_65 rfl rfl ?_
  refine go_get 0 2 69 rfl d3_66 rfl rfl rfl (wd hw 19 rfl) ?_
  refine go_lloadN 70 rfl d3_69 rfl ?_
  refine go_lastore 1 71 rfl d3_70 rfl rfl (by decide) (Nat.le_of_ble_eq_true rfl) ?_
  show Go B3_12 Z a0 h0 _ 0 0 [ob a3 "com/example/offboard/offboard/fix/Throttle" [("com/example/offboard/offboard/fix/Throttle", "passed", "[J", (.ref a4)), ("com/example/offboard/offboard/fix/Throttle", "count", "I", (.int (2 : Int32))), ("com/example/offboard/offboard/fix/Throttle", "next", "I", (.int (1 : Int32)))], ar a4 .long [(.long q0), (.long q1)]] 71 #[.val (.ref a3), .val (.long q1), .second, .val (.long q1), .second] []
  refine go_aloadN 72 rfl d3_71 rfl rfl ?_
  refine go_aloadN 73 rfl d3_72 rfl rfl ?_
  refine go_get 0 2 76 rfl d3_73 rfl rfl rfl (wd hw 19 rfl) ?_
  refine go_iconst (1 : Int32) 77 rfl d3_76 rfl ?_
  refine go_iadd 78 rfl d3_77 rfl ?_
  show Go B3_12 Z a0 h0 _ 0 0 [ob a3 "com/example/offboard/offboard/fix/Throttle" [("com/example/offboard/offboard/fix/Throttle", "passed", "[J", (.ref a4)), ("com/example/offboard/offboard/fix/Throttle", "count", "I", (.int (2 : Int32))), ("com/example/offboard/offboard/fix/Throttle", "next", "I", (.int (1 : Int32)))], ar a4 .long [(.long q0), (.long q1)]] 78 #[.val (.ref a3), .val (.long q1), .second, .val (.long q1), .second] [(.int (2 : Int32)), (.ref a3)]
  refine go_aloadN 79 rfl d3_78 rfl rfl ?_
  refine go_get 0 0 82 rfl d3_79 rfl rfl rfl (wd hw 10 rfl) ?_
  refine go_alen 1 83 rfl d3_82 rfl rfl ?_
  show Go B3_12 Z a0 h0 _ 0 0 [ob a3 "com/example/offboard/offboard/fix/Throttle" [("com/example/offboard/offboard/fix/Throttle", "passed", "[J", (.ref a4)), ("com/example/offboard/offboard/fix/Throttle", "count", "I", (.int (2 : Int32))), ("com/example/offboard/offboard/fix/Throttle", "next", "I", (.int (1 : Int32)))], ar a4 .long [(.long q0), (.long q1)]] 83 #[.val (.ref a3), .val (.long q1), .second, .val (.long q1), .second] [(.int (2 : Int32)), (.int (2 : Int32)), (.ref a3)]
  refine go_irem 84 rfl d3_83 rfl (by decide) ?_
  show Go B3_12 Z a0 h0 _ 0 0 [ob a3 "com/example/offboard/offboard/fix/Throttle" [("com/example/offboard/offboard/fix/Throttle", "passed", "[J", (.ref a4)), ("com/example/offboard/offboard/fix/Throttle", "count", "I", (.int (2 : Int32))), ("com/example/offboard/offboard/fix/Throttle", "next", "I", (.int (1 : Int32)))], ar a4 .long [(.long q0), (.long q1)]] 84 #[.val (.ref a3), .val (.long q1), .second, .val (.long q1), .second] [(.int (0 : Int32)), (.ref a3)]
  refine go_put 0 2 87 rfl d3_84 rfl rfl rfl (wd hw 19 rfl) (Or.inl (wd hw 20 rfl)) (wd hw 1 rfl) (ty := .int) (by decide) rfl rfl ?_
  show Go B3_12 Z a0 h0 _ 0 0 [ob a3 "com/example/offboard/offboard/fix/Throttle" [("com/example/offboard/offboard/fix/Throttle", "passed", "[J", (.ref a4)), ("com/example/offboard/offboard/fix/Throttle", "count", "I", (.int (2 : Int32))), ("com/example/offboard/offboard/fix/Throttle", "next", "I", (.int (0 : Int32)))], ar a4 .long [(.long q0), (.long q1)]] 87 #[.val (.ref a3), .val (.long q1), .second, .val (.long q1), .second] []
  refine go_lloadN 88 rfl d3_87 rfl ?_
  exact go_lreturn d3_88 rfl rfl (by decide) (by decide) ⟨rfl, rfl⟩
def B3_13 : Bdy := (⟨"com/example/offboard/offboard/fix/Throttle", "pass", "(J)J"⟩, prog_83_method_2_code, 5, (some .long), ({ frames := 0, cells := 0, slots := 0, locals := 0 } : Room))
set_option maxRecDepth 65536 in
set_option maxHeartbeats 4000000 in
theorem mt13 (Z : State) (a0 : Array Value) (hw : ∀ d ∈ tables_1, d.before a0 Z = true) (h0 : Heap) (SW : Sta Z h0 "com/example/offboard/offboard/fix/Throttle" "WINDOW_NANOS" "J" (.long 1000000000)) (a3 : Addr) (a4 : Addr) (q0 : Int64) (q1 : Int64) (q2 : Int64) :
    Met B3_13 Z a0 h0 #[(.ref a3), (.long q2)] [ob a3 "com/example/offboard/offboard/fix/Throttle" [("com/example/offboard/offboard/fix/Throttle", "passed", "[J", (.ref a4)), ("com/example/offboard/offboard/fix/Throttle", "count", "I", (.int (2 : Int32))), ("com/example/offboard/offboard/fix/Throttle", "next", "I", (.int (0 : Int32)))], ar a4 .long [(.long q0), (.long q1)]] (Ret (some (.long (lt1 q0 q2))) [ob a3 "com/example/offboard/offboard/fix/Throttle" [("com/example/offboard/offboard/fix/Throttle", "passed", "[J", (.ref a4)), ("com/example/offboard/offboard/fix/Throttle", "count", "I", (.int (2 : Int32))), ("com/example/offboard/offboard/fix/Throttle", "next", "I", (.int (1 : Int32)))], ar a4 .long [(.long (lt1 q0 q2)), (.long q1)]]) := by
  refine Met.of pn3 (ls := #[.val (.ref a3), .val (.long q2), .second, .unset, .unset]) (fun m => by first | (simp [entryFrame, mkF, argsToLocals, Value.category, B3_13]; done) | rfl) ?_
  show Go B3_13 Z a0 h0 _ 0 0 [ob a3 "com/example/offboard/offboard/fix/Throttle" [("com/example/offboard/offboard/fix/Throttle", "passed", "[J", (.ref a4)), ("com/example/offboard/offboard/fix/Throttle", "count", "I", (.int (2 : Int32))), ("com/example/offboard/offboard/fix/Throttle", "next", "I", (.int (0 : Int32)))], ar a4 .long [(.long q0), (.long q1)]] 0 #[.val (.ref a3), .val (.long q2), .second, .unset, .unset] []
  refine go_lloadN 1 rfl d3_0 rfl ?_
  refine go_lstoreN #[.val (.ref a3), .val (.long q2), .second, .val (.long q2), .second] 2 rfl d3_1 rfl rfl ?_
  refine go_aloadN 3 rfl d3_2 rfl rfl ?_
  refine go_get 0 1 6 rfl d3_3 rfl rfl rfl (wd hw 17 rfl) ?_
  refine go_aloadN 7 rfl d3_6 rfl rfl ?_
  refine go_get 0 0 10 rfl d3_7 rfl rfl rfl (wd hw 10 rfl) ?_
  refine go_alen 1 11 rfl d3_10 rfl rfl ?_
  show Go B3_13 Z a0 h0 _ 0 0 [ob a3 "com/example/offboard/offboard/fix/Throttle" [("com/example/offboard/offboard/fix/Throttle", "passed", "[J", (.ref a4)), ("com/example/offboard/offboard/fix/Throttle", "count", "I", (.int (2 : Int32))), ("com/example/offboard/offboard/fix/Throttle", "next", "I", (.int (0 : Int32)))], ar a4 .long [(.long q0), (.long q1)]] 11 #[.val (.ref a3), .val (.long q2), .second, .val (.long q2), .second] [(.int (2 : Int32)), (.int (2 : Int32))]
  refine go_icmp 27 14 rfl (by decide) rfl d3_11 rfl (fun (hc11 : (2 : Int) ≤ (2 : Int)) => ?_) (fun (hc11 : ¬ ((2 : Int) ≤ (2 : Int))) => absurd hc11 (by decide))
  refine go_aloadN 28 rfl d3_27 rfl rfl ?_
  refine go_get 0 0 31 rfl d3_28 rfl rfl rfl (wd hw 10 rfl) ?_
  refine go_aloadN 32 rfl d3_31 rfl rfl ?_
  refine go_get 0 2 35 rfl d3_32 rfl rfl rfl (wd hw 19 rfl) ?_
  refine go_laload 36 rfl d3_35 rfl (Mo.el (i := 1) rfl (by decide) rfl) ?_
  refine go_getS 39 rfl d3_36 (wd hw 21 rfl) SW ?_
  refine go_ladd 40 rfl d3_39 rfl ?_
  refine go_lloadN 41 rfl d3_40 rfl ?_
  refine go_lsub 42 rfl d3_41 rfl ?_
  refine go_lconst (0 : Int64) 43 rfl d3_42 rfl ?_
  refine go_lcmp 44 rfl d3_43 rfl ?_
  refine go_if 61 47 rfl (by decide) rfl d3_44 rfl (fun (hc44_13 : (lcmpW ((q0 + (1000000000 : Int64)) - q2) (0 : Int64)).toInt ≤ 0) => ?_) (fun (hc44_13 : ¬ ((lcmpW ((q0 + (1000000000 : Int64)) - q2) (0 : Int64)).toInt ≤ 0)) => ?_)
  · refine go_aloadN 62 rfl d3_61 rfl rfl ?_
    refine go_get 0 0 65 rfl d3_62 rfl rfl rfl (wd hw 10 rfl) ?_
    refine go_aloadN 66 rfl d3_65 rfl rfl ?_
    refine go_get 0 2 69 rfl d3_66 rfl rfl rfl (wd hw 19 rfl) ?_
    refine go_lloadN 70 rfl d3_69 rfl ?_
    refine go_lastore 1 71 rfl d3_70 rfl rfl (by decide) (Nat.le_of_ble_eq_true rfl) ?_
    show Go B3_13 Z a0 h0 _ 0 0 [ob a3 "com/example/offboard/offboard/fix/Throttle" [("com/example/offboard/offboard/fix/Throttle", "passed", "[J", (.ref a4)), ("com/example/offboard/offboard/fix/Throttle", "count", "I", (.int (2 : Int32))), ("com/example/offboard/offboard/fix/Throttle", "next", "I", (.int (0 : Int32)))], ar a4 .long [(.long q2), (.long q1)]] 71 #[.val (.ref a3), .val (.long q2), .second, .val (.long q2), .second] []
    refine go_aloadN 72 rfl d3_71 rfl rfl ?_
    refine go_aloadN 73 rfl d3_72 rfl rfl ?_
    refine go_get 0 2 76 rfl d3_73 rfl rfl rfl (wd hw 19 rfl) ?_
    refine go_iconst (1 : Int32) 77 rfl d3_76 rfl ?_
    refine go_iadd 78 rfl d3_77 rfl ?_
    show Go B3_13 Z a0 h0 _ 0 0 [ob a3 "com/example/offboard/offboard/fix/Throttle" [("com/example/offboard/offboard/fix/Throttle", "passed", "[J", (.ref a4)), ("com/example/offboard/offboard/fix/Throttle", "count", "I", (.int (2 : Int32))), ("com/example/offboard/offboard/fix/Throttle", "next", "I", (.int (0 : Int32)))], ar a4 .long [(.long q2), (.long q1)]] 78 #[.val (.ref a3), .val (.long q2), .second, .val (.long q2), .second] [(.int (1 : Int32)), (.ref a3)]
    refine go_aloadN 79 rfl d3_78 rfl rfl ?_
    refine go_get 0 0 82 rfl d3_79 rfl rfl rfl (wd hw 10 rfl) ?_
    refine go_alen 1 83 rfl d3_82 rfl rfl ?_
    show Go B3_13 Z a0 h0 _ 0 0 [ob a3 "com/example/offboard/offboard/fix/Throttle" [("com/example/offboard/offboard/fix/Throttle", "passed", "[J", (.ref a4)), ("com/example/offboard/offboard/fix/Throttle", "count", "I", (.int (2 : Int32))), ("com/example/offboard/offboard/fix/Throttle", "next", "I", (.int (0 : Int32)))], ar a4 .long [(.long q2), (.long q1)]] 83 #[.val (.ref a3), .val (.long q2), .second, .val (.long q2), .second] [(.int (2 : Int32)), (.int (1 : Int32)), (.ref a3)]
    refine go_irem 84 rfl d3_83 rfl (by decide) ?_
    show Go B3_13 Z a0 h0 _ 0 0 [ob a3 "com/example/offboard/offboard/fix/Throttle" [("com/example/offboard/offboard/fix/Throttle", "passed", "[J", (.ref a4)), ("com/example/offboard/offboard/fix/Throttle", "count", "I", (.int (2 : Int32))), ("com/example/offboard/offboard/fix/Throttle", "next", "I", (.int (0 : Int32)))], ar a4 .long [(.long q2), (.long q1)]] 84 #[.val (.ref a3), .val (.long q2), .second, .val (.long q2), .second] [(.int (1 : Int32)), (.ref a3)]
    refine go_put 0 2 87 rfl d3_84 rfl rfl rfl (wd hw 19 rfl) (Or.inl (wd hw 20 rfl)) (wd hw 1 rfl) (ty := .int) (by decide) rfl rfl ?_
    show Go B3_13 Z a0 h0 _ 0 0 [ob a3 "com/example/offboard/offboard/fix/Throttle" [("com/example/offboard/offboard/fix/Throttle", "passed", "[J", (.ref a4)), ("com/example/offboard/offboard/fix/Throttle", "count", "I", (.int (2 : Int32))), ("com/example/offboard/offboard/fix/Throttle", "next", "I", (.int (1 : Int32)))], ar a4 .long [(.long q2), (.long q1)]] 87 #[.val (.ref a3), .val (.long q2), .second, .val (.long q2), .second] []
    refine go_lloadN 88 rfl d3_87 rfl ?_
    exact go_lreturn d3_88 rfl rfl (by decide) (by decide) (by unfold Ret; rw [lt1_pos hc44_13]; exact ⟨rfl, rfl⟩)
  · refine go_aloadN 48 rfl d3_47 rfl rfl ?_
    refine go_get 0 0 51 rfl d3_48 rfl rfl rfl (wd hw 10 rfl) ?_
    refine go_aloadN 52 rfl d3_51 rfl rfl ?_
    refine go_get 0 2 55 rfl d3_52 rfl rfl rfl (wd hw 19 rfl) ?_
    refine go_laload 56 rfl d3_55 rfl (Mo.el (i := 1) rfl (by decide) rfl) ?_
    refine go_getS 59 rfl d3_56 (wd hw 21 rfl) SW ?_
    refine go_ladd 60 rfl d3_59 rfl ?_
    refine go_lstoreN #[.val (.ref a3), .val (.long q2), .second, .val (.long (q0 + (1000000000 : Int64))), .second] 61 rfl d3_60 rfl rfl ?_
    refine go_aloadN 62 rfl d3_61 rfl rfl ?_
    refine go_get 0 0 65 rfl d3_62 rfl rfl rfl (wd hw 10 rfl) ?_
    refine go_aloadN 66 rfl d3_65 rfl rfl ?_
    refine go_get 0 2 69 rfl d3_66 rfl rfl rfl (wd hw 19 rfl) ?_
    refine go_lloadN 70 rfl d3_69 rfl ?_
    refine go_lastore 1 71 rfl d3_70 rfl rfl (by decide) (Nat.le_of_ble_eq_true rfl) ?_
    show Go B3_13 Z a0 h0 _ 0 0 [ob a3 "com/example/offboard/offboard/fix/Throttle" [("com/example/offboard/offboard/fix/Throttle", "passed", "[J", (.ref a4)), ("com/example/offboard/offboard/fix/Throttle", "count", "I", (.int (2 : Int32))), ("com/example/offboard/offboard/fix/Throttle", "next", "I", (.int (0 : Int32)))], ar a4 .long [(.long (q0 + (1000000000 : Int64))), (.long q1)]] 71 #[.val (.ref a3), .val (.long q2), .second, .val (.long (q0 + (1000000000 : Int64))), .second] []
    refine go_aloadN 72 rfl d3_71 rfl rfl ?_
    refine go_aloadN 73 rfl d3_72 rfl rfl ?_
    refine go_get 0 2 76 rfl d3_73 rfl rfl rfl (wd hw 19 rfl) ?_
    refine go_iconst (1 : Int32) 77 rfl d3_76 rfl ?_
    refine go_iadd 78 rfl d3_77 rfl ?_
    show Go B3_13 Z a0 h0 _ 0 0 [ob a3 "com/example/offboard/offboard/fix/Throttle" [("com/example/offboard/offboard/fix/Throttle", "passed", "[J", (.ref a4)), ("com/example/offboard/offboard/fix/Throttle", "count", "I", (.int (2 : Int32))), ("com/example/offboard/offboard/fix/Throttle", "next", "I", (.int (0 : Int32)))], ar a4 .long [(.long (q0 + (1000000000 : Int64))), (.long q1)]] 78 #[.val (.ref a3), .val (.long q2), .second, .val (.long (q0 + (1000000000 : Int64))), .second] [(.int (1 : Int32)), (.ref a3)]
    refine go_aloadN 79 rfl d3_78 rfl rfl ?_
    refine go_get 0 0 82 rfl d3_79 rfl rfl rfl (wd hw 10 rfl) ?_
    refine go_alen 1 83 rfl d3_82 rfl rfl ?_
    show Go B3_13 Z a0 h0 _ 0 0 [ob a3 "com/example/offboard/offboard/fix/Throttle" [("com/example/offboard/offboard/fix/Throttle", "passed", "[J", (.ref a4)), ("com/example/offboard/offboard/fix/Throttle", "count", "I", (.int (2 : Int32))), ("com/example/offboard/offboard/fix/Throttle", "next", "I", (.int (0 : Int32)))], ar a4 .long [(.long (q0 + (1000000000 : Int64))), (.long q1)]] 83 #[.val (.ref a3), .val (.long q2), .second, .val (.long (q0 + (1000000000 : Int64))), .second] [(.int (2 : Int32)), (.int (1 : Int32)), (.ref a3)]
    refine go_irem 84 rfl d3_83 rfl (by decide) ?_
    show Go B3_13 Z a0 h0 _ 0 0 [ob a3 "com/example/offboard/offboard/fix/Throttle" [("com/example/offboard/offboard/fix/Throttle", "passed", "[J", (.ref a4)), ("com/example/offboard/offboard/fix/Throttle", "count", "I", (.int (2 : Int32))), ("com/example/offboard/offboard/fix/Throttle", "next", "I", (.int (0 : Int32)))], ar a4 .long [(.long (q0 + (1000000000 : Int64))), (.long q1)]] 84 #[.val (.ref a3), .val (.long q2), .second, .val (.long (q0 + (1000000000 : Int64))), .second] [(.int (1 : Int32)), (.ref a3)]
    refine go_put 0 2 87 rfl d3_84 rfl rfl rfl (wd hw 19 rfl) (Or.inl (wd hw 20 rfl)) (wd hw 1 rfl) (ty := .int) (by decide) rfl rfl ?_
    show Go B3_13 Z a0 h0 _ 0 0 [ob a3 "com/example/offboard/offboard/fix/Throttle" [("com/example/offboard/offboard/fix/Throttle", "passed", "[J", (.ref a4)), ("com/example/offboard/offboard/fix/Throttle", "count", "I", (.int (2 : Int32))), ("com/example/offboard/offboard/fix/Throttle", "next", "I", (.int (1 : Int32)))], ar a4 .long [(.long (q0 + (1000000000 : Int64))), (.long q1)]] 87 #[.val (.ref a3), .val (.long q2), .second, .val (.long (q0 + (1000000000 : Int64))), .second] []
    refine go_lloadN 88 rfl d3_87 rfl ?_
    exact go_lreturn d3_88 rfl rfl (by decide) (by decide) (by unfold Ret; rw [lt1_neg hc44_13]; exact ⟨rfl, rfl⟩)
def B3_15 : Bdy := (⟨"com/example/offboard/offboard/fix/Throttle", "pass", "(J)J"⟩, prog_83_method_2_code, 5, (some .long), ({ frames := 0, cells := 0, slots := 0, locals := 0 } : Room))
set_option maxRecDepth 65536 in
set_option maxHeartbeats 4000000 in
theorem mt15 (Z : State) (a0 : Array Value) (hw : ∀ d ∈ tables_1, d.before a0 Z = true) (h0 : Heap) (SW : Sta Z h0 "com/example/offboard/offboard/fix/Throttle" "WINDOW_NANOS" "J" (.long 1000000000)) (a3 : Addr) (a4 : Addr) (q0 : Int64) (q2 : Int64) (q1 : Int64) (q3 : Int64) :
    Met B3_15 Z a0 h0 #[(.ref a3), (.long q3)] [ob a3 "com/example/offboard/offboard/fix/Throttle" [("com/example/offboard/offboard/fix/Throttle", "passed", "[J", (.ref a4)), ("com/example/offboard/offboard/fix/Throttle", "count", "I", (.int (2 : Int32))), ("com/example/offboard/offboard/fix/Throttle", "next", "I", (.int (1 : Int32)))], ar a4 .long [(.long (lt1 q0 q2)), (.long q1)]] (Ret (some (.long (lt1 q1 q3))) [ob a3 "com/example/offboard/offboard/fix/Throttle" [("com/example/offboard/offboard/fix/Throttle", "passed", "[J", (.ref a4)), ("com/example/offboard/offboard/fix/Throttle", "count", "I", (.int (2 : Int32))), ("com/example/offboard/offboard/fix/Throttle", "next", "I", (.int (0 : Int32)))], ar a4 .long [(.long (lt1 q0 q2)), (.long (lt1 q1 q3))]]) := by
  refine Met.of pn3 (ls := #[.val (.ref a3), .val (.long q3), .second, .unset, .unset]) (fun m => by first | (simp [entryFrame, mkF, argsToLocals, Value.category, B3_15]; done) | rfl) ?_
  show Go B3_15 Z a0 h0 _ 0 0 [ob a3 "com/example/offboard/offboard/fix/Throttle" [("com/example/offboard/offboard/fix/Throttle", "passed", "[J", (.ref a4)), ("com/example/offboard/offboard/fix/Throttle", "count", "I", (.int (2 : Int32))), ("com/example/offboard/offboard/fix/Throttle", "next", "I", (.int (1 : Int32)))], ar a4 .long [(.long (lt1 q0 q2)), (.long q1)]] 0 #[.val (.ref a3), .val (.long q3), .second, .unset, .unset] []
  refine go_lloadN 1 rfl d3_0 rfl ?_
  refine go_lstoreN #[.val (.ref a3), .val (.long q3), .second, .val (.long q3), .second] 2 rfl d3_1 rfl rfl ?_
  refine go_aloadN 3 rfl d3_2 rfl rfl ?_
  refine go_get 0 1 6 rfl d3_3 rfl rfl rfl (wd hw 17 rfl) ?_
  refine go_aloadN 7 rfl d3_6 rfl rfl ?_
  refine go_get 0 0 10 rfl d3_7 rfl rfl rfl (wd hw 10 rfl) ?_
  refine go_alen 1 11 rfl d3_10 rfl rfl ?_
  show Go B3_15 Z a0 h0 _ 0 0 [ob a3 "com/example/offboard/offboard/fix/Throttle" [("com/example/offboard/offboard/fix/Throttle", "passed", "[J", (.ref a4)), ("com/example/offboard/offboard/fix/Throttle", "count", "I", (.int (2 : Int32))), ("com/example/offboard/offboard/fix/Throttle", "next", "I", (.int (1 : Int32)))], ar a4 .long [(.long (lt1 q0 q2)), (.long q1)]] 11 #[.val (.ref a3), .val (.long q3), .second, .val (.long q3), .second] [(.int (2 : Int32)), (.int (2 : Int32))]
  refine go_icmp 27 14 rfl (by decide) rfl d3_11 rfl (fun (hc11 : (2 : Int) ≤ (2 : Int)) => ?_) (fun (hc11 : ¬ ((2 : Int) ≤ (2 : Int))) => absurd hc11 (by decide))
  refine go_aloadN 28 rfl d3_27 rfl rfl ?_
  refine go_get 0 0 31 rfl d3_28 rfl rfl rfl (wd hw 10 rfl) ?_
  refine go_aloadN 32 rfl d3_31 rfl rfl ?_
  refine go_get 0 2 35 rfl d3_32 rfl rfl rfl (wd hw 19 rfl) ?_
  refine go_laload 36 rfl d3_35 rfl (Mo.el (i := 1) rfl (by decide) rfl) ?_
  refine go_getS 39 rfl d3_36 (wd hw 21 rfl) SW ?_
  refine go_ladd 40 rfl d3_39 rfl ?_
  refine go_lloadN 41 rfl d3_40 rfl ?_
  refine go_lsub 42 rfl d3_41 rfl ?_
  refine go_lconst (0 : Int64) 43 rfl d3_42 rfl ?_
  refine go_lcmp 44 rfl d3_43 rfl ?_
  refine go_if 61 47 rfl (by decide) rfl d3_44 rfl (fun (hc44_15 : (lcmpW ((q1 + (1000000000 : Int64)) - q3) (0 : Int64)).toInt ≤ 0) => ?_) (fun (hc44_15 : ¬ ((lcmpW ((q1 + (1000000000 : Int64)) - q3) (0 : Int64)).toInt ≤ 0)) => ?_)
  · refine go_aloadN 62 rfl d3_61 rfl rfl ?_
    refine go_get 0 0 65 rfl d3_62 rfl rfl rfl (wd hw 10 rfl) ?_
    refine go_aloadN 66 rfl d3_65 rfl rfl ?_
    refine go_get 0 2 69 rfl d3_66 rfl rfl rfl (wd hw 19 rfl) ?_
    refine go_lloadN 70 rfl d3_69 rfl ?_
    refine go_lastore 1 71 rfl d3_70 rfl rfl (by decide) (Nat.le_of_ble_eq_true rfl) ?_
    show Go B3_15 Z a0 h0 _ 0 0 [ob a3 "com/example/offboard/offboard/fix/Throttle" [("com/example/offboard/offboard/fix/Throttle", "passed", "[J", (.ref a4)), ("com/example/offboard/offboard/fix/Throttle", "count", "I", (.int (2 : Int32))), ("com/example/offboard/offboard/fix/Throttle", "next", "I", (.int (1 : Int32)))], ar a4 .long [(.long (lt1 q0 q2)), (.long q3)]] 71 #[.val (.ref a3), .val (.long q3), .second, .val (.long q3), .second] []
    refine go_aloadN 72 rfl d3_71 rfl rfl ?_
    refine go_aloadN 73 rfl d3_72 rfl rfl ?_
    refine go_get 0 2 76 rfl d3_73 rfl rfl rfl (wd hw 19 rfl) ?_
    refine go_iconst (1 : Int32) 77 rfl d3_76 rfl ?_
    refine go_iadd 78 rfl d3_77 rfl ?_
    show Go B3_15 Z a0 h0 _ 0 0 [ob a3 "com/example/offboard/offboard/fix/Throttle" [("com/example/offboard/offboard/fix/Throttle", "passed", "[J", (.ref a4)), ("com/example/offboard/offboard/fix/Throttle", "count", "I", (.int (2 : Int32))), ("com/example/offboard/offboard/fix/Throttle", "next", "I", (.int (1 : Int32)))], ar a4 .long [(.long (lt1 q0 q2)), (.long q3)]] 78 #[.val (.ref a3), .val (.long q3), .second, .val (.long q3), .second] [(.int (2 : Int32)), (.ref a3)]
    refine go_aloadN 79 rfl d3_78 rfl rfl ?_
    refine go_get 0 0 82 rfl d3_79 rfl rfl rfl (wd hw 10 rfl) ?_
    refine go_alen 1 83 rfl d3_82 rfl rfl ?_
    show Go B3_15 Z a0 h0 _ 0 0 [ob a3 "com/example/offboard/offboard/fix/Throttle" [("com/example/offboard/offboard/fix/Throttle", "passed", "[J", (.ref a4)), ("com/example/offboard/offboard/fix/Throttle", "count", "I", (.int (2 : Int32))), ("com/example/offboard/offboard/fix/Throttle", "next", "I", (.int (1 : Int32)))], ar a4 .long [(.long (lt1 q0 q2)), (.long q3)]] 83 #[.val (.ref a3), .val (.long q3), .second, .val (.long q3), .second] [(.int (2 : Int32)), (.int (2 : Int32)), (.ref a3)]
    refine go_irem 84 rfl d3_83 rfl (by decide) ?_
    show Go B3_15 Z a0 h0 _ 0 0 [ob a3 "com/example/offboard/offboard/fix/Throttle" [("com/example/offboard/offboard/fix/Throttle", "passed", "[J", (.ref a4)), ("com/example/offboard/offboard/fix/Throttle", "count", "I", (.int (2 : Int32))), ("com/example/offboard/offboard/fix/Throttle", "next", "I", (.int (1 : Int32)))], ar a4 .long [(.long (lt1 q0 q2)), (.long q3)]] 84 #[.val (.ref a3), .val (.long q3), .second, .val (.long q3), .second] [(.int (0 : Int32)), (.ref a3)]
    refine go_put 0 2 87 rfl d3_84 rfl rfl rfl (wd hw 19 rfl) (Or.inl (wd hw 20 rfl)) (wd hw 1 rfl) (ty := .int) (by decide) rfl rfl ?_
    show Go B3_15 Z a0 h0 _ 0 0 [ob a3 "com/example/offboard/offboard/fix/Throttle" [("com/example/offboard/offboard/fix/Throttle", "passed", "[J", (.ref a4)), ("com/example/offboard/offboard/fix/Throttle", "count", "I", (.int (2 : Int32))), ("com/example/offboard/offboard/fix/Throttle", "next", "I", (.int (0 : Int32)))], ar a4 .long [(.long (lt1 q0 q2)), (.long q3)]] 87 #[.val (.ref a3), .val (.long q3), .second, .val (.long q3), .second] []
    refine go_lloadN 88 rfl d3_87 rfl ?_
    exact go_lreturn d3_88 rfl rfl (by decide) (by decide) (by unfold Ret; rw [lt1_pos hc44_15]; exact ⟨rfl, rfl⟩)
  · refine go_aloadN 48 rfl d3_47 rfl rfl ?_
    refine go_get 0 0 51 rfl d3_48 rfl rfl rfl (wd hw 10 rfl) ?_
    refine go_aloadN 52 rfl d3_51 rfl rfl ?_
    refine go_get 0 2 55 rfl d3_52 rfl rfl rfl (wd hw 19 rfl) ?_
    refine go_laload 56 rfl d3_55 rfl (Mo.el (i := 1) rfl (by decide) rfl) ?_
    refine go_getS 59 rfl d3_56 (wd hw 21 rfl) SW ?_
    refine go_ladd 60 rfl d3_59 rfl ?_
    refine go_lstoreN #[.val (.ref a3), .val (.long q3), .second, .val (.long (q1 + (1000000000 : Int64))), .second] 61 rfl d3_60 rfl rfl ?_
    refine go_aloadN 62 rfl d3_61 rfl rfl ?_
    refine go_get 0 0 65 rfl d3_62 rfl rfl rfl (wd hw 10 rfl) ?_
    refine go_aloadN 66 rfl d3_65 rfl rfl ?_
    refine go_get 0 2 69 rfl d3_66 rfl rfl rfl (wd hw 19 rfl) ?_
    refine go_lloadN 70 rfl d3_69 rfl ?_
    refine go_lastore 1 71 rfl d3_70 rfl rfl (by decide) (Nat.le_of_ble_eq_true rfl) ?_
    show Go B3_15 Z a0 h0 _ 0 0 [ob a3 "com/example/offboard/offboard/fix/Throttle" [("com/example/offboard/offboard/fix/Throttle", "passed", "[J", (.ref a4)), ("com/example/offboard/offboard/fix/Throttle", "count", "I", (.int (2 : Int32))), ("com/example/offboard/offboard/fix/Throttle", "next", "I", (.int (1 : Int32)))], ar a4 .long [(.long (lt1 q0 q2)), (.long (q1 + (1000000000 : Int64)))]] 71 #[.val (.ref a3), .val (.long q3), .second, .val (.long (q1 + (1000000000 : Int64))), .second] []
    refine go_aloadN 72 rfl d3_71 rfl rfl ?_
    refine go_aloadN 73 rfl d3_72 rfl rfl ?_
    refine go_get 0 2 76 rfl d3_73 rfl rfl rfl (wd hw 19 rfl) ?_
    refine go_iconst (1 : Int32) 77 rfl d3_76 rfl ?_
    refine go_iadd 78 rfl d3_77 rfl ?_
    show Go B3_15 Z a0 h0 _ 0 0 [ob a3 "com/example/offboard/offboard/fix/Throttle" [("com/example/offboard/offboard/fix/Throttle", "passed", "[J", (.ref a4)), ("com/example/offboard/offboard/fix/Throttle", "count", "I", (.int (2 : Int32))), ("com/example/offboard/offboard/fix/Throttle", "next", "I", (.int (1 : Int32)))], ar a4 .long [(.long (lt1 q0 q2)), (.long (q1 + (1000000000 : Int64)))]] 78 #[.val (.ref a3), .val (.long q3), .second, .val (.long (q1 + (1000000000 : Int64))), .second] [(.int (2 : Int32)), (.ref a3)]
    refine go_aloadN 79 rfl d3_78 rfl rfl ?_
    refine go_get 0 0 82 rfl d3_79 rfl rfl rfl (wd hw 10 rfl) ?_
    refine go_alen 1 83 rfl d3_82 rfl rfl ?_
    show Go B3_15 Z a0 h0 _ 0 0 [ob a3 "com/example/offboard/offboard/fix/Throttle" [("com/example/offboard/offboard/fix/Throttle", "passed", "[J", (.ref a4)), ("com/example/offboard/offboard/fix/Throttle", "count", "I", (.int (2 : Int32))), ("com/example/offboard/offboard/fix/Throttle", "next", "I", (.int (1 : Int32)))], ar a4 .long [(.long (lt1 q0 q2)), (.long (q1 + (1000000000 : Int64)))]] 83 #[.val (.ref a3), .val (.long q3), .second, .val (.long (q1 + (1000000000 : Int64))), .second] [(.int (2 : Int32)), (.int (2 : Int32)), (.ref a3)]
    refine go_irem 84 rfl d3_83 rfl (by decide) ?_
    show Go B3_15 Z a0 h0 _ 0 0 [ob a3 "com/example/offboard/offboard/fix/Throttle" [("com/example/offboard/offboard/fix/Throttle", "passed", "[J", (.ref a4)), ("com/example/offboard/offboard/fix/Throttle", "count", "I", (.int (2 : Int32))), ("com/example/offboard/offboard/fix/Throttle", "next", "I", (.int (1 : Int32)))], ar a4 .long [(.long (lt1 q0 q2)), (.long (q1 + (1000000000 : Int64)))]] 84 #[.val (.ref a3), .val (.long q3), .second, .val (.long (q1 + (1000000000 : Int64))), .second] [(.int (0 : Int32)), (.ref a3)]
    refine go_put 0 2 87 rfl d3_84 rfl rfl rfl (wd hw 19 rfl) (Or.inl (wd hw 20 rfl)) (wd hw 1 rfl) (ty := .int) (by decide) rfl rfl ?_
    show Go B3_15 Z a0 h0 _ 0 0 [ob a3 "com/example/offboard/offboard/fix/Throttle" [("com/example/offboard/offboard/fix/Throttle", "passed", "[J", (.ref a4)), ("com/example/offboard/offboard/fix/Throttle", "count", "I", (.int (2 : Int32))), ("com/example/offboard/offboard/fix/Throttle", "next", "I", (.int (0 : Int32)))], ar a4 .long [(.long (lt1 q0 q2)), (.long (q1 + (1000000000 : Int64)))]] 87 #[.val (.ref a3), .val (.long q3), .second, .val (.long (q1 + (1000000000 : Int64))), .second] []
    refine go_lloadN 88 rfl d3_87 rfl ?_
    exact go_lreturn d3_88 rfl rfl (by decide) (by decide) (by unfold Ret; rw [lt1_neg hc44_15]; exact ⟨rfl, rfl⟩)
def B1_17 : Bdy := (⟨"com/example/offboard/offboard/fix/Throttle", "<init>", "(I)V"⟩, prog_83_method_1_code, 2, none, ({ frames := 1, cells := 1, slots := 3, locals := 12 } : Room))
set_option maxRecDepth 65536 in
set_option maxHeartbeats 4000000 in
theorem mt17 (Z : State) (a0 : Array Value) (hw : ∀ d ∈ tables_1, d.before a0 Z = true) (h0 : Heap) (SW : Sta Z h0 "com/example/offboard/offboard/fix/Throttle" "WINDOW_NANOS" "J" (.long 1000000000)) (a5 : Addr) :
    Met B1_17 Z a0 h0 #[(.ref a5), (.int (3 : Int32))] [ob a5 "com/example/offboard/offboard/fix/Throttle" [("com/example/offboard/offboard/fix/Throttle", "passed", "[J", .null), ("com/example/offboard/offboard/fix/Throttle", "count", "I", (.int (0 : Int32))), ("com/example/offboard/offboard/fix/Throttle", "next", "I", (.int (0 : Int32)))]] (fun v ds => ∃ a106 : Addr, Ret none [ob a5 "com/example/offboard/offboard/fix/Throttle" [("com/example/offboard/offboard/fix/Throttle", "passed", "[J", (.ref a106)), ("com/example/offboard/offboard/fix/Throttle", "count", "I", (.int (0 : Int32))), ("com/example/offboard/offboard/fix/Throttle", "next", "I", (.int (0 : Int32)))], ar a106 .long [(.long (0 : Int64)), (.long (0 : Int64)), (.long (0 : Int64))]] v ds) := by
  refine Met.of pn1 (ls := #[.val (.ref a5), .val (.int (3 : Int32))]) (fun m => by first | (simp [entryFrame, mkF, argsToLocals, Value.category, B1_17]; done) | rfl) ?_
  show Go B1_17 Z a0 h0 _ 0 0 [ob a5 "com/example/offboard/offboard/fix/Throttle" [("com/example/offboard/offboard/fix/Throttle", "passed", "[J", .null), ("com/example/offboard/offboard/fix/Throttle", "count", "I", (.int (0 : Int32))), ("com/example/offboard/offboard/fix/Throttle", "next", "I", (.int (0 : Int32)))]] 0 #[.val (.ref a5), .val (.int (3 : Int32))] []
  refine go_aloadN 1 rfl d1_0 rfl rfl ?_
  refine go_initObj 4 rfl d1_1 rfl (wd hw 6 rfl) (wd hw 7 rfl) (wd hw 8 rfl) rfl (by decide) (by decide) ?_
  refine go_iloadN 5 rfl d1_4 rfl ?_
  refine go_if 22 8 rfl (by decide) rfl d1_5 rfl (fun (hc5 : 0 < (3 : Int)) => ?_) (fun (hc5 : ¬ (0 < (3 : Int))) => absurd hc5 (by decide))
  refine go_aloadN 23 rfl d1_22 rfl rfl ?_
  refine go_iloadN 24 rfl d1_23 rfl ?_
  refine go_newarr 26 rfl d1_24 rfl (wd hw 9 rfl) (by decide) 3 (by decide) (by decide) (by decide) (by decide) (fun a106 => ?_)
  show Go B1_17 Z a0 h0 _ 1 3 [ob a5 "com/example/offboard/offboard/fix/Throttle" [("com/example/offboard/offboard/fix/Throttle", "passed", "[J", .null), ("com/example/offboard/offboard/fix/Throttle", "count", "I", (.int (0 : Int32))), ("com/example/offboard/offboard/fix/Throttle", "next", "I", (.int (0 : Int32)))], ar a106 .long [(.long (0 : Int64)), (.long (0 : Int64)), (.long (0 : Int64))]] 26 #[.val (.ref a5), .val (.int (3 : Int32))] [(.ref a106), (.ref a5)]
  refine go_put 0 0 29 rfl d1_26 rfl rfl rfl (wd hw 10 rfl) (Or.inr ⟨(wd hw 11 rfl), rfl, rfl⟩) (wd hw 1 rfl) (ty := (.array .long)) (by decide) rfl rfl ?_
  show Go B1_17 Z a0 h0 _ 1 3 [ob a5 "com/example/offboard/offboard/fix/Throttle" [("com/example/offboard/offboard/fix/Throttle", "passed", "[J", (.ref a106)), ("com/example/offboard/offboard/fix/Throttle", "count", "I", (.int (0 : Int32))), ("com/example/offboard/offboard/fix/Throttle", "next", "I", (.int (0 : Int32)))], ar a106 .long [(.long (0 : Int64)), (.long (0 : Int64)), (.long (0 : Int64))]] 29 #[.val (.ref a5), .val (.int (3 : Int32))] []
  exact go_return d1_29 rfl rfl (by decide) (by decide) ⟨a106, rfl, rfl⟩
def B3_18 : Bdy := (⟨"com/example/offboard/offboard/fix/Throttle", "pass", "(J)J"⟩, prog_83_method_2_code, 5, (some .long), ({ frames := 0, cells := 0, slots := 0, locals := 0 } : Room))
set_option maxRecDepth 65536 in
set_option maxHeartbeats 4000000 in
theorem mt18 (Z : State) (a0 : Array Value) (hw : ∀ d ∈ tables_1, d.before a0 Z = true) (h0 : Heap) (SW : Sta Z h0 "com/example/offboard/offboard/fix/Throttle" "WINDOW_NANOS" "J" (.long 1000000000)) (a5 : Addr) (a6 : Addr) (q0 : Int64) :
    Met B3_18 Z a0 h0 #[(.ref a5), (.long q0)] [ob a5 "com/example/offboard/offboard/fix/Throttle" [("com/example/offboard/offboard/fix/Throttle", "passed", "[J", (.ref a6)), ("com/example/offboard/offboard/fix/Throttle", "count", "I", (.int (0 : Int32))), ("com/example/offboard/offboard/fix/Throttle", "next", "I", (.int (0 : Int32)))], ar a6 .long [(.long (0 : Int64)), (.long (0 : Int64)), (.long (0 : Int64))]] (Ret (some (.long q0)) [ob a5 "com/example/offboard/offboard/fix/Throttle" [("com/example/offboard/offboard/fix/Throttle", "passed", "[J", (.ref a6)), ("com/example/offboard/offboard/fix/Throttle", "count", "I", (.int (1 : Int32))), ("com/example/offboard/offboard/fix/Throttle", "next", "I", (.int (1 : Int32)))], ar a6 .long [(.long q0), (.long (0 : Int64)), (.long (0 : Int64))]]) := by
  refine Met.of pn3 (ls := #[.val (.ref a5), .val (.long q0), .second, .unset, .unset]) (fun m => by first | (simp [entryFrame, mkF, argsToLocals, Value.category, B3_18]; done) | rfl) ?_
  show Go B3_18 Z a0 h0 _ 0 0 [ob a5 "com/example/offboard/offboard/fix/Throttle" [("com/example/offboard/offboard/fix/Throttle", "passed", "[J", (.ref a6)), ("com/example/offboard/offboard/fix/Throttle", "count", "I", (.int (0 : Int32))), ("com/example/offboard/offboard/fix/Throttle", "next", "I", (.int (0 : Int32)))], ar a6 .long [(.long (0 : Int64)), (.long (0 : Int64)), (.long (0 : Int64))]] 0 #[.val (.ref a5), .val (.long q0), .second, .unset, .unset] []
  refine go_lloadN 1 rfl d3_0 rfl ?_
  refine go_lstoreN #[.val (.ref a5), .val (.long q0), .second, .val (.long q0), .second] 2 rfl d3_1 rfl rfl ?_
  refine go_aloadN 3 rfl d3_2 rfl rfl ?_
  refine go_get 0 1 6 rfl d3_3 rfl rfl rfl (wd hw 17 rfl) ?_
  refine go_aloadN 7 rfl d3_6 rfl rfl ?_
  refine go_get 0 0 10 rfl d3_7 rfl rfl rfl (wd hw 10 rfl) ?_
  refine go_alen 1 11 rfl d3_10 rfl rfl ?_
  show Go B3_18 Z a0 h0 _ 0 0 [ob a5 "com/example/offboard/offboard/fix/Throttle" [("com/example/offboard/offboard/fix/Throttle", "passed", "[J", (.ref a6)), ("com/example/offboard/offboard/fix/Throttle", "count", "I", (.int (0 : Int32))), ("com/example/offboard/offboard/fix/Throttle", "next", "I", (.int (0 : Int32)))], ar a6 .long [(.long (0 : Int64)), (.long (0 : Int64)), (.long (0 : Int64))]] 11 #[.val (.ref a5), .val (.long q0), .second, .val (.long q0), .second] [(.int (3 : Int32)), (.int (0 : Int32))]
  refine go_icmp 27 14 rfl (by decide) rfl d3_11 rfl (fun (hc11 : (3 : Int) ≤ (0 : Int)) => absurd hc11 (by decide)) (fun (hc11 : ¬ ((3 : Int) ≤ (0 : Int))) => ?_)
  refine go_aloadN 15 rfl d3_14 rfl rfl ?_
  refine go_dup 16 rfl d3_15 rfl rfl ?_
  refine go_get 0 1 19 rfl d3_16 rfl rfl rfl (wd hw 17 rfl) ?_
  refine go_iconst (1 : Int32) 20 rfl d3_19 rfl ?_
  refine go_iadd 21 rfl d3_20 rfl ?_
  show Go B3_18 Z a0 h0 _ 0 0 [ob a5 "com/example/offboard/offboard/fix/Throttle" [("com/example/offboard/offboard/fix/Throttle", "passed", "[J", (.ref a6)), ("com/example/offboard/offboard/fix/Throttle", "count", "I", (.int (0 : Int32))), ("com/example/offboard/offboard/fix/Throttle", "next", "I", (.int (0 : Int32)))], ar a6 .long [(.long (0 : Int64)), (.long (0 : Int64)), (.long (0 : Int64))]] 21 #[.val (.ref a5), .val (.long q0), .second, .val (.long q0), .second] [(.int (1 : Int32)), (.ref a5)]
  refine go_put 0 1 24 rfl d3_21 rfl rfl rfl (wd hw 17 rfl) (Or.inl (wd hw 18 rfl)) (wd hw 1 rfl) (ty := .int) (by decide) rfl rfl ?_
  show Go B3_18 Z a0 h0 _ 0 0 [ob a5 "com/example/offboard/offboard/fix/Throttle" [("com/example/offboard/offboard/fix/Throttle", "passed", "[J", (.ref a6)), ("com/example/offboard/offboard/fix/Throttle", "count", "I", (.int (1 : Int32))), ("com/example/offboard/offboard/fix/Throttle", "next", "I", (.int (0 : Int32)))], ar a6 .long [(.long (0 : Int64)), (.long (0 : Int64)), (.long (0 : Int64))]] 24 #[.val (.ref a5), .val (.long q0), .second, .val (.long q0), .second] []
  refine go_goto 61 (by decide) rfl d3_24 ?_
  refine go_aloadN 62 rfl d3_61 rfl rfl ?_
  refine go_get 0 0 65 rfl d3_62 rfl rfl rfl (wd hw 10 rfl) ?_
  refine go_aloadN 66 rfl d3_65 rfl rfl ?_
  refine go_get 0 2 69 rfl d3_66 rfl rfl rfl (wd hw 19 rfl) ?_
  refine go_lloadN 70 rfl d3_69 rfl ?_
  refine go_lastore 1 71 rfl d3_70 rfl rfl (by decide) (Nat.le_of_ble_eq_true rfl) ?_
  show Go B3_18 Z a0 h0 _ 0 0 [ob a5 "com/example/offboard/offboard/fix/Throttle" [("com/example/offboard/offboard/fix/Throttle", "passed", "[J", (.ref a6)), ("com/example/offboard/offboard/fix/Throttle", "count", "I", (.int (1 : Int32))), ("com/example/offboard/offboard/fix/Throttle", "next", "I", (.int (0 : Int32)))], ar a6 .long [(.long q0), (.long (0 : Int64)), (.long (0 : Int64))]] 71 #[.val (.ref a5), .val (.long q0), .second, .val (.long q0), .second] []
  refine go_aloadN 72 rfl d3_71 rfl rfl ?_
  refine go_aloadN 73 rfl d3_72 rfl rfl ?_
  refine go_get 0 2 76 rfl d3_73 rfl rfl rfl (wd hw 19 rfl) ?_
  refine go_iconst (1 : Int32) 77 rfl d3_76 rfl ?_
  refine go_iadd 78 rfl d3_77 rfl ?_
  show Go B3_18 Z a0 h0 _ 0 0 [ob a5 "com/example/offboard/offboard/fix/Throttle" [("com/example/offboard/offboard/fix/Throttle", "passed", "[J", (.ref a6)), ("com/example/offboard/offboard/fix/Throttle", "count", "I", (.int (1 : Int32))), ("com/example/offboard/offboard/fix/Throttle", "next", "I", (.int (0 : Int32)))], ar a6 .long [(.long q0), (.long (0 : Int64)), (.long (0 : Int64))]] 78 #[.val (.ref a5), .val (.long q0), .second, .val (.long q0), .second] [(.int (1 : Int32)), (.ref a5)]
  refine go_aloadN 79 rfl d3_78 rfl rfl ?_
  refine go_get 0 0 82 rfl d3_79 rfl rfl rfl (wd hw 10 rfl) ?_
  refine go_alen 1 83 rfl d3_82 rfl rfl ?_
  show Go B3_18 Z a0 h0 _ 0 0 [ob a5 "com/example/offboard/offboard/fix/Throttle" [("com/example/offboard/offboard/fix/Throttle", "passed", "[J", (.ref a6)), ("com/example/offboard/offboard/fix/Throttle", "count", "I", (.int (1 : Int32))), ("com/example/offboard/offboard/fix/Throttle", "next", "I", (.int (0 : Int32)))], ar a6 .long [(.long q0), (.long (0 : Int64)), (.long (0 : Int64))]] 83 #[.val (.ref a5), .val (.long q0), .second, .val (.long q0), .second] [(.int (3 : Int32)), (.int (1 : Int32)), (.ref a5)]
  refine go_irem 84 rfl d3_83 rfl (by decide) ?_
  show Go B3_18 Z a0 h0 _ 0 0 [ob a5 "com/example/offboard/offboard/fix/Throttle" [("com/example/offboard/offboard/fix/Throttle", "passed", "[J", (.ref a6)), ("com/example/offboard/offboard/fix/Throttle", "count", "I", (.int (1 : Int32))), ("com/example/offboard/offboard/fix/Throttle", "next", "I", (.int (0 : Int32)))], ar a6 .long [(.long q0), (.long (0 : Int64)), (.long (0 : Int64))]] 84 #[.val (.ref a5), .val (.long q0), .second, .val (.long q0), .second] [(.int (1 : Int32)), (.ref a5)]
  refine go_put 0 2 87 rfl d3_84 rfl rfl rfl (wd hw 19 rfl) (Or.inl (wd hw 20 rfl)) (wd hw 1 rfl) (ty := .int) (by decide) rfl rfl ?_
  show Go B3_18 Z a0 h0 _ 0 0 [ob a5 "com/example/offboard/offboard/fix/Throttle" [("com/example/offboard/offboard/fix/Throttle", "passed", "[J", (.ref a6)), ("com/example/offboard/offboard/fix/Throttle", "count", "I", (.int (1 : Int32))), ("com/example/offboard/offboard/fix/Throttle", "next", "I", (.int (1 : Int32)))], ar a6 .long [(.long q0), (.long (0 : Int64)), (.long (0 : Int64))]] 87 #[.val (.ref a5), .val (.long q0), .second, .val (.long q0), .second] []
  refine go_lloadN 88 rfl d3_87 rfl ?_
  exact go_lreturn d3_88 rfl rfl (by decide) (by decide) ⟨rfl, rfl⟩
def B3_19 : Bdy := (⟨"com/example/offboard/offboard/fix/Throttle", "pass", "(J)J"⟩, prog_83_method_2_code, 5, (some .long), ({ frames := 0, cells := 0, slots := 0, locals := 0 } : Room))
set_option maxRecDepth 65536 in
set_option maxHeartbeats 4000000 in
theorem mt19 (Z : State) (a0 : Array Value) (hw : ∀ d ∈ tables_1, d.before a0 Z = true) (h0 : Heap) (SW : Sta Z h0 "com/example/offboard/offboard/fix/Throttle" "WINDOW_NANOS" "J" (.long 1000000000)) (a5 : Addr) (a6 : Addr) (q0 : Int64) (q1 : Int64) :
    Met B3_19 Z a0 h0 #[(.ref a5), (.long q1)] [ob a5 "com/example/offboard/offboard/fix/Throttle" [("com/example/offboard/offboard/fix/Throttle", "passed", "[J", (.ref a6)), ("com/example/offboard/offboard/fix/Throttle", "count", "I", (.int (1 : Int32))), ("com/example/offboard/offboard/fix/Throttle", "next", "I", (.int (1 : Int32)))], ar a6 .long [(.long q0), (.long (0 : Int64)), (.long (0 : Int64))]] (Ret (some (.long q1)) [ob a5 "com/example/offboard/offboard/fix/Throttle" [("com/example/offboard/offboard/fix/Throttle", "passed", "[J", (.ref a6)), ("com/example/offboard/offboard/fix/Throttle", "count", "I", (.int (2 : Int32))), ("com/example/offboard/offboard/fix/Throttle", "next", "I", (.int (2 : Int32)))], ar a6 .long [(.long q0), (.long q1), (.long (0 : Int64))]]) := by
  refine Met.of pn3 (ls := #[.val (.ref a5), .val (.long q1), .second, .unset, .unset]) (fun m => by first | (simp [entryFrame, mkF, argsToLocals, Value.category, B3_19]; done) | rfl) ?_
  show Go B3_19 Z a0 h0 _ 0 0 [ob a5 "com/example/offboard/offboard/fix/Throttle" [("com/example/offboard/offboard/fix/Throttle", "passed", "[J", (.ref a6)), ("com/example/offboard/offboard/fix/Throttle", "count", "I", (.int (1 : Int32))), ("com/example/offboard/offboard/fix/Throttle", "next", "I", (.int (1 : Int32)))], ar a6 .long [(.long q0), (.long (0 : Int64)), (.long (0 : Int64))]] 0 #[.val (.ref a5), .val (.long q1), .second, .unset, .unset] []
  refine go_lloadN 1 rfl d3_0 rfl ?_
  refine go_lstoreN #[.val (.ref a5), .val (.long q1), .second, .val (.long q1), .second] 2 rfl d3_1 rfl rfl ?_
  refine go_aloadN 3 rfl d3_2 rfl rfl ?_
  refine go_get 0 1 6 rfl d3_3 rfl rfl rfl (wd hw 17 rfl) ?_
  refine go_aloadN 7 rfl d3_6 rfl rfl ?_
  refine go_get 0 0 10 rfl d3_7 rfl rfl rfl (wd hw 10 rfl) ?_
  refine go_alen 1 11 rfl d3_10 rfl rfl ?_
  show Go B3_19 Z a0 h0 _ 0 0 [ob a5 "com/example/offboard/offboard/fix/Throttle" [("com/example/offboard/offboard/fix/Throttle", "passed", "[J", (.ref a6)), ("com/example/offboard/offboard/fix/Throttle", "count", "I", (.int (1 : Int32))), ("com/example/offboard/offboard/fix/Throttle", "next", "I", (.int (1 : Int32)))], ar a6 .long [(.long q0), (.long (0 : Int64)), (.long (0 : Int64))]] 11 #[.val (.ref a5), .val (.long q1), .second, .val (.long q1), .second] [(.int (3 : Int32)), (.int (1 : Int32))]
  refine go_icmp 27 14 rfl (by decide) rfl d3_11 rfl (fun (hc11 : (3 : Int) ≤ (1 : Int)) => absurd hc11 (by decide)) (fun (hc11 : ¬ ((3 : Int) ≤ (1 : Int))) => ?_)
  refine go_aloadN 15 rfl d3_14 rfl rfl ?_
  refine go_dup 16 rfl d3_15 rfl rfl ?_
  refine go_get 0 1 19 rfl d3_16 rfl rfl rfl (wd hw 17 rfl) ?_
  refine go_iconst (1 : Int32) 20 rfl d3_19 rfl ?_
  refine go_iadd 21 rfl d3_20 rfl ?_
  show Go B3_19 Z a0 h0 _ 0 0 [ob a5 "com/example/offboard/offboard/fix/Throttle" [("com/example/offboard/offboard/fix/Throttle", "passed", "[J", (.ref a6)), ("com/example/offboard/offboard/fix/Throttle", "count", "I", (.int (1 : Int32))), ("com/example/offboard/offboard/fix/Throttle", "next", "I", (.int (1 : Int32)))], ar a6 .long [(.long q0), (.long (0 : Int64)), (.long (0 : Int64))]] 21 #[.val (.ref a5), .val (.long q1), .second, .val (.long q1), .second] [(.int (2 : Int32)), (.ref a5)]
  refine go_put 0 1 24 rfl d3_21 rfl rfl rfl (wd hw 17 rfl) (Or.inl (wd hw 18 rfl)) (wd hw 1 rfl) (ty := .int) (by decide) rfl rfl ?_
  show Go B3_19 Z a0 h0 _ 0 0 [ob a5 "com/example/offboard/offboard/fix/Throttle" [("com/example/offboard/offboard/fix/Throttle", "passed", "[J", (.ref a6)), ("com/example/offboard/offboard/fix/Throttle", "count", "I", (.int (2 : Int32))), ("com/example/offboard/offboard/fix/Throttle", "next", "I", (.int (1 : Int32)))], ar a6 .long [(.long q0), (.long (0 : Int64)), (.long (0 : Int64))]] 24 #[.val (.ref a5), .val (.long q1), .second, .val (.long q1), .second] []
  refine go_goto 61 (by decide) rfl d3_24 ?_
  refine go_aloadN 62 rfl d3_61 rfl rfl ?_
  refine go_get 0 0 65 rfl d3_62 rfl rfl rfl (wd hw 10 rfl) ?_
  refine go_aloadN 66 rfl d3_65 rfl rfl ?_
  refine go_get 0 2 69 rfl d3_66 rfl rfl rfl (wd hw 19 rfl) ?_
  refine go_lloadN 70 rfl d3_69 rfl ?_
  refine go_lastore 1 71 rfl d3_70 rfl rfl (by decide) (Nat.le_of_ble_eq_true rfl) ?_
  show Go B3_19 Z a0 h0 _ 0 0 [ob a5 "com/example/offboard/offboard/fix/Throttle" [("com/example/offboard/offboard/fix/Throttle", "passed", "[J", (.ref a6)), ("com/example/offboard/offboard/fix/Throttle", "count", "I", (.int (2 : Int32))), ("com/example/offboard/offboard/fix/Throttle", "next", "I", (.int (1 : Int32)))], ar a6 .long [(.long q0), (.long q1), (.long (0 : Int64))]] 71 #[.val (.ref a5), .val (.long q1), .second, .val (.long q1), .second] []
  refine go_aloadN 72 rfl d3_71 rfl rfl ?_
  refine go_aloadN 73 rfl d3_72 rfl rfl ?_
  refine go_get 0 2 76 rfl d3_73 rfl rfl rfl (wd hw 19 rfl) ?_
  refine go_iconst (1 : Int32) 77 rfl d3_76 rfl ?_
  refine go_iadd 78 rfl d3_77 rfl ?_
  show Go B3_19 Z a0 h0 _ 0 0 [ob a5 "com/example/offboard/offboard/fix/Throttle" [("com/example/offboard/offboard/fix/Throttle", "passed", "[J", (.ref a6)), ("com/example/offboard/offboard/fix/Throttle", "count", "I", (.int (2 : Int32))), ("com/example/offboard/offboard/fix/Throttle", "next", "I", (.int (1 : Int32)))], ar a6 .long [(.long q0), (.long q1), (.long (0 : Int64))]] 78 #[.val (.ref a5), .val (.long q1), .second, .val (.long q1), .second] [(.int (2 : Int32)), (.ref a5)]
  refine go_aloadN 79 rfl d3_78 rfl rfl ?_
  refine go_get 0 0 82 rfl d3_79 rfl rfl rfl (wd hw 10 rfl) ?_
  refine go_alen 1 83 rfl d3_82 rfl rfl ?_
  show Go B3_19 Z a0 h0 _ 0 0 [ob a5 "com/example/offboard/offboard/fix/Throttle" [("com/example/offboard/offboard/fix/Throttle", "passed", "[J", (.ref a6)), ("com/example/offboard/offboard/fix/Throttle", "count", "I", (.int (2 : Int32))), ("com/example/offboard/offboard/fix/Throttle", "next", "I", (.int (1 : Int32)))], ar a6 .long [(.long q0), (.long q1), (.long (0 : Int64))]] 83 #[.val (.ref a5), .val (.long q1), .second, .val (.long q1), .second] [(.int (3 : Int32)), (.int (2 : Int32)), (.ref a5)]
  refine go_irem 84 rfl d3_83 rfl (by decide) ?_
  show Go B3_19 Z a0 h0 _ 0 0 [ob a5 "com/example/offboard/offboard/fix/Throttle" [("com/example/offboard/offboard/fix/Throttle", "passed", "[J", (.ref a6)), ("com/example/offboard/offboard/fix/Throttle", "count", "I", (.int (2 : Int32))), ("com/example/offboard/offboard/fix/Throttle", "next", "I", (.int (1 : Int32)))], ar a6 .long [(.long q0), (.long q1), (.long (0 : Int64))]] 84 #[.val (.ref a5), .val (.long q1), .second, .val (.long q1), .second] [(.int (2 : Int32)), (.ref a5)]
  refine go_put 0 2 87 rfl d3_84 rfl rfl rfl (wd hw 19 rfl) (Or.inl (wd hw 20 rfl)) (wd hw 1 rfl) (ty := .int) (by decide) rfl rfl ?_
  show Go B3_19 Z a0 h0 _ 0 0 [ob a5 "com/example/offboard/offboard/fix/Throttle" [("com/example/offboard/offboard/fix/Throttle", "passed", "[J", (.ref a6)), ("com/example/offboard/offboard/fix/Throttle", "count", "I", (.int (2 : Int32))), ("com/example/offboard/offboard/fix/Throttle", "next", "I", (.int (2 : Int32)))], ar a6 .long [(.long q0), (.long q1), (.long (0 : Int64))]] 87 #[.val (.ref a5), .val (.long q1), .second, .val (.long q1), .second] []
  refine go_lloadN 88 rfl d3_87 rfl ?_
  exact go_lreturn d3_88 rfl rfl (by decide) (by decide) ⟨rfl, rfl⟩
def B3_20 : Bdy := (⟨"com/example/offboard/offboard/fix/Throttle", "pass", "(J)J"⟩, prog_83_method_2_code, 5, (some .long), ({ frames := 0, cells := 0, slots := 0, locals := 0 } : Room))
set_option maxRecDepth 65536 in
set_option maxHeartbeats 4000000 in
theorem mt20 (Z : State) (a0 : Array Value) (hw : ∀ d ∈ tables_1, d.before a0 Z = true) (h0 : Heap) (SW : Sta Z h0 "com/example/offboard/offboard/fix/Throttle" "WINDOW_NANOS" "J" (.long 1000000000)) (a5 : Addr) (a6 : Addr) (q0 : Int64) (q1 : Int64) (q2 : Int64) :
    Met B3_20 Z a0 h0 #[(.ref a5), (.long q2)] [ob a5 "com/example/offboard/offboard/fix/Throttle" [("com/example/offboard/offboard/fix/Throttle", "passed", "[J", (.ref a6)), ("com/example/offboard/offboard/fix/Throttle", "count", "I", (.int (2 : Int32))), ("com/example/offboard/offboard/fix/Throttle", "next", "I", (.int (2 : Int32)))], ar a6 .long [(.long q0), (.long q1), (.long (0 : Int64))]] (Ret (some (.long q2)) [ob a5 "com/example/offboard/offboard/fix/Throttle" [("com/example/offboard/offboard/fix/Throttle", "passed", "[J", (.ref a6)), ("com/example/offboard/offboard/fix/Throttle", "count", "I", (.int (3 : Int32))), ("com/example/offboard/offboard/fix/Throttle", "next", "I", (.int (0 : Int32)))], ar a6 .long [(.long q0), (.long q1), (.long q2)]]) := by
  refine Met.of pn3 (ls := #[.val (.ref a5), .val (.long q2), .second, .unset, .unset]) (fun m => by first | (simp [entryFrame, mkF, argsToLocals, Value.category, B3_20]; done) | rfl) ?_
  show Go B3_20 Z a0 h0 _ 0 0 [ob a5 "com/example/offboard/offboard/fix/Throttle" [("com/example/offboard/offboard/fix/Throttle", "passed", "[J", (.ref a6)), ("com/example/offboard/offboard/fix/Throttle", "count", "I", (.int (2 : Int32))), ("com/example/offboard/offboard/fix/Throttle", "next", "I", (.int (2 : Int32)))], ar a6 .long [(.long q0), (.long q1), (.long (0 : Int64))]] 0 #[.val (.ref a5), .val (.long q2), .second, .unset, .unset] []
  refine go_lloadN 1 rfl d3_0 rfl ?_
  refine go_lstoreN #[.val (.ref a5), .val (.long q2), .second, .val (.long q2), .second] 2 rfl d3_1 rfl rfl ?_
  refine go_aloadN 3 rfl d3_2 rfl rfl ?_
  refine go_get 0 1 6 rfl d3_3 rfl rfl rfl (wd hw 17 rfl) ?_
  refine go_aloadN 7 rfl d3_6 rfl rfl ?_
  refine go_get 0 0 10 rfl d3_7 rfl rfl rfl (wd hw 10 rfl) ?_
  refine go_alen 1 11 rfl d3_10 rfl rfl ?_
  show Go B3_20 Z a0 h0 _ 0 0 [ob a5 "com/example/offboard/offboard/fix/Throttle" [("com/example/offboard/offboard/fix/Throttle", "passed", "[J", (.ref a6)), ("com/example/offboard/offboard/fix/Throttle", "count", "I", (.int (2 : Int32))), ("com/example/offboard/offboard/fix/Throttle", "next", "I", (.int (2 : Int32)))], ar a6 .long [(.long q0), (.long q1), (.long (0 : Int64))]] 11 #[.val (.ref a5), .val (.long q2), .second, .val (.long q2), .second] [(.int (3 : Int32)), (.int (2 : Int32))]
  refine go_icmp 27 14 rfl (by decide) rfl d3_11 rfl (fun (hc11 : (3 : Int) ≤ (2 : Int)) => absurd hc11 (by decide)) (fun (hc11 : ¬ ((3 : Int) ≤ (2 : Int))) => ?_)
  refine go_aloadN 15 rfl d3_14 rfl rfl ?_
  refine go_dup 16 rfl d3_15 rfl rfl ?_
  refine go_get 0 1 19 rfl d3_16 rfl rfl rfl (wd hw 17 rfl) ?_
  refine go_iconst (1 : Int32) 20 rfl d3_19 rfl ?_
  refine go_iadd 21 rfl d3_20 rfl ?_
  show Go B3_20 Z a0 h0 _ 0 0 [ob a5 "com/example/offboard/offboard/fix/Throttle" [("com/example/offboard/offboard/fix/Throttle", "passed", "[J", (.ref a6)), ("com/example/offboard/offboard/fix/Throttle", "count", "I", (.int (2 : Int32))), ("com/example/offboard/offboard/fix/Throttle", "next", "I", (.int (2 : Int32)))], ar a6 .long [(.long q0), (.long q1), (.long (0 : Int64))]] 21 #[.val (.ref a5), .val (.long q2), .second, .val (.long q2), .second] [(.int (3 : Int32)), (.ref a5)]
  refine go_put 0 1 24 rfl d3_21 rfl rfl rfl (wd hw 17 rfl) (Or.inl (wd hw 18 rfl)) (wd hw 1 rfl) (ty := .int) (by decide) rfl rfl ?_
  show Go B3_20 Z a0 h0 _ 0 0 [ob a5 "com/example/offboard/offboard/fix/Throttle" [("com/example/offboard/offboard/fix/Throttle", "passed", "[J", (.ref a6)), ("com/example/offboard/offboard/fix/Throttle", "count", "I", (.int (3 : Int32))), ("com/example/offboard/offboard/fix/Throttle", "next", "I", (.int (2 : Int32)))], ar a6 .long [(.long q0), (.long q1), (.long (0 : Int64))]] 24 #[.val (.ref a5), .val (.long q2), .second, .val (.long q2), .second] []
  refine go_goto 61 (by decide) rfl d3_24 ?_
  refine go_aloadN 62 rfl d3_61 rfl rfl ?_
  refine go_get 0 0 65 rfl d3_62 rfl rfl rfl (wd hw 10 rfl) ?_
  refine go_aloadN 66 rfl d3_65 rfl rfl ?_
  refine go_get 0 2 69 rfl d3_66 rfl rfl rfl (wd hw 19 rfl) ?_
  refine go_lloadN 70 rfl d3_69 rfl ?_
  refine go_lastore 1 71 rfl d3_70 rfl rfl (by decide) (Nat.le_of_ble_eq_true rfl) ?_
  show Go B3_20 Z a0 h0 _ 0 0 [ob a5 "com/example/offboard/offboard/fix/Throttle" [("com/example/offboard/offboard/fix/Throttle", "passed", "[J", (.ref a6)), ("com/example/offboard/offboard/fix/Throttle", "count", "I", (.int (3 : Int32))), ("com/example/offboard/offboard/fix/Throttle", "next", "I", (.int (2 : Int32)))], ar a6 .long [(.long q0), (.long q1), (.long q2)]] 71 #[.val (.ref a5), .val (.long q2), .second, .val (.long q2), .second] []
  refine go_aloadN 72 rfl d3_71 rfl rfl ?_
  refine go_aloadN 73 rfl d3_72 rfl rfl ?_
  refine go_get 0 2 76 rfl d3_73 rfl rfl rfl (wd hw 19 rfl) ?_
  refine go_iconst (1 : Int32) 77 rfl d3_76 rfl ?_
  refine go_iadd 78 rfl d3_77 rfl ?_
  show Go B3_20 Z a0 h0 _ 0 0 [ob a5 "com/example/offboard/offboard/fix/Throttle" [("com/example/offboard/offboard/fix/Throttle", "passed", "[J", (.ref a6)), ("com/example/offboard/offboard/fix/Throttle", "count", "I", (.int (3 : Int32))), ("com/example/offboard/offboard/fix/Throttle", "next", "I", (.int (2 : Int32)))], ar a6 .long [(.long q0), (.long q1), (.long q2)]] 78 #[.val (.ref a5), .val (.long q2), .second, .val (.long q2), .second] [(.int (3 : Int32)), (.ref a5)]
  refine go_aloadN 79 rfl d3_78 rfl rfl ?_
  refine go_get 0 0 82 rfl d3_79 rfl rfl rfl (wd hw 10 rfl) ?_
  refine go_alen 1 83 rfl d3_82 rfl rfl ?_
  show Go B3_20 Z a0 h0 _ 0 0 [ob a5 "com/example/offboard/offboard/fix/Throttle" [("com/example/offboard/offboard/fix/Throttle", "passed", "[J", (.ref a6)), ("com/example/offboard/offboard/fix/Throttle", "count", "I", (.int (3 : Int32))), ("com/example/offboard/offboard/fix/Throttle", "next", "I", (.int (2 : Int32)))], ar a6 .long [(.long q0), (.long q1), (.long q2)]] 83 #[.val (.ref a5), .val (.long q2), .second, .val (.long q2), .second] [(.int (3 : Int32)), (.int (3 : Int32)), (.ref a5)]
  refine go_irem 84 rfl d3_83 rfl (by decide) ?_
  show Go B3_20 Z a0 h0 _ 0 0 [ob a5 "com/example/offboard/offboard/fix/Throttle" [("com/example/offboard/offboard/fix/Throttle", "passed", "[J", (.ref a6)), ("com/example/offboard/offboard/fix/Throttle", "count", "I", (.int (3 : Int32))), ("com/example/offboard/offboard/fix/Throttle", "next", "I", (.int (2 : Int32)))], ar a6 .long [(.long q0), (.long q1), (.long q2)]] 84 #[.val (.ref a5), .val (.long q2), .second, .val (.long q2), .second] [(.int (0 : Int32)), (.ref a5)]
  refine go_put 0 2 87 rfl d3_84 rfl rfl rfl (wd hw 19 rfl) (Or.inl (wd hw 20 rfl)) (wd hw 1 rfl) (ty := .int) (by decide) rfl rfl ?_
  show Go B3_20 Z a0 h0 _ 0 0 [ob a5 "com/example/offboard/offboard/fix/Throttle" [("com/example/offboard/offboard/fix/Throttle", "passed", "[J", (.ref a6)), ("com/example/offboard/offboard/fix/Throttle", "count", "I", (.int (3 : Int32))), ("com/example/offboard/offboard/fix/Throttle", "next", "I", (.int (0 : Int32)))], ar a6 .long [(.long q0), (.long q1), (.long q2)]] 87 #[.val (.ref a5), .val (.long q2), .second, .val (.long q2), .second] []
  refine go_lloadN 88 rfl d3_87 rfl ?_
  exact go_lreturn d3_88 rfl rfl (by decide) (by decide) ⟨rfl, rfl⟩
def B3_21 : Bdy := (⟨"com/example/offboard/offboard/fix/Throttle", "pass", "(J)J"⟩, prog_83_method_2_code, 5, (some .long), ({ frames := 0, cells := 0, slots := 0, locals := 0 } : Room))
set_option maxRecDepth 65536 in
set_option maxHeartbeats 4000000 in
theorem mt21 (Z : State) (a0 : Array Value) (hw : ∀ d ∈ tables_1, d.before a0 Z = true) (h0 : Heap) (SW : Sta Z h0 "com/example/offboard/offboard/fix/Throttle" "WINDOW_NANOS" "J" (.long 1000000000)) (a5 : Addr) (a6 : Addr) (q0 : Int64) (q1 : Int64) (q2 : Int64) (q3 : Int64) :
    Met B3_21 Z a0 h0 #[(.ref a5), (.long q3)] [ob a5 "com/example/offboard/offboard/fix/Throttle" [("com/example/offboard/offboard/fix/Throttle", "passed", "[J", (.ref a6)), ("com/example/offboard/offboard/fix/Throttle", "count", "I", (.int (3 : Int32))), ("com/example/offboard/offboard/fix/Throttle", "next", "I", (.int (0 : Int32)))], ar a6 .long [(.long q0), (.long q1), (.long q2)]] (Ret (some (.long (lt1 q0 q3))) [ob a5 "com/example/offboard/offboard/fix/Throttle" [("com/example/offboard/offboard/fix/Throttle", "passed", "[J", (.ref a6)), ("com/example/offboard/offboard/fix/Throttle", "count", "I", (.int (3 : Int32))), ("com/example/offboard/offboard/fix/Throttle", "next", "I", (.int (1 : Int32)))], ar a6 .long [(.long (lt1 q0 q3)), (.long q1), (.long q2)]]) := by
  refine Met.of pn3 (ls := #[.val (.ref a5), .val (.long q3), .second, .unset, .unset]) (fun m => by first | (simp [entryFrame, mkF, argsToLocals, Value.category, B3_21]; done) | rfl) ?_
  show Go B3_21 Z a0 h0 _ 0 0 [ob a5 "com/example/offboard/offboard/fix/Throttle" [("com/example/offboard/offboard/fix/Throttle", "passed", "[J", (.ref a6)), ("com/example/offboard/offboard/fix/Throttle", "count", "I", (.int (3 : Int32))), ("com/example/offboard/offboard/fix/Throttle", "next", "I", (.int (0 : Int32)))], ar a6 .long [(.long q0), (.long q1), (.long q2)]] 0 #[.val (.ref a5), .val (.long q3), .second, .unset, .unset] []
  refine go_lloadN 1 rfl d3_0 rfl ?_
  refine go_lstoreN #[.val (.ref a5), .val (.long q3), .second, .val (.long q3), .second] 2 rfl d3_1 rfl rfl ?_
  refine go_aloadN 3 rfl d3_2 rfl rfl ?_
  refine go_get 0 1 6 rfl d3_3 rfl rfl rfl (wd hw 17 rfl) ?_
  refine go_aloadN 7 rfl d3_6 rfl rfl ?_
  refine go_get 0 0 10 rfl d3_7 rfl rfl rfl (wd hw 10 rfl) ?_
  refine go_alen 1 11 rfl d3_10 rfl rfl ?_
  show Go B3_21 Z a0 h0 _ 0 0 [ob a5 "com/example/offboard/offboard/fix/Throttle" [("com/example/offboard/offboard/fix/Throttle", "passed", "[J", (.ref a6)), ("com/example/offboard/offboard/fix/Throttle", "count", "I", (.int (3 : Int32))), ("com/example/offboard/offboard/fix/Throttle", "next", "I", (.int (0 : Int32)))], ar a6 .long [(.long q0), (.long q1), (.long q2)]] 11 #[.val (.ref a5), .val (.long q3), .second, .val (.long q3), .second] [(.int (3 : Int32)), (.int (3 : Int32))]
  refine go_icmp 27 14 rfl (by decide) rfl d3_11 rfl (fun (hc11 : (3 : Int) ≤ (3 : Int)) => ?_) (fun (hc11 : ¬ ((3 : Int) ≤ (3 : Int))) => absurd hc11 (by decide))
  refine go_aloadN 28 rfl d3_27 rfl rfl ?_
  refine go_get 0 0 31 rfl d3_28 rfl rfl rfl (wd hw 10 rfl) ?_
  refine go_aloadN 32 rfl d3_31 rfl rfl ?_
  refine go_get 0 2 35 rfl d3_32 rfl rfl rfl (wd hw 19 rfl) ?_
  refine go_laload 36 rfl d3_35 rfl (Mo.el (i := 1) rfl (by decide) rfl) ?_
  refine go_getS 39 rfl d3_36 (wd hw 21 rfl) SW ?_
  refine go_ladd 40 rfl d3_39 rfl ?_
  refine go_lloadN 41 rfl d3_40 rfl ?_
  refine go_lsub 42 rfl d3_41 rfl ?_
  refine go_lconst (0 : Int64) 43 rfl d3_42 rfl ?_
  refine go_lcmp 44 rfl d3_43 rfl ?_
  refine go_if 61 47 rfl (by decide) rfl d3_44 rfl (fun (hc44_21 : (lcmpW ((q0 + (1000000000 : Int64)) - q3) (0 : Int64)).toInt ≤ 0) => ?_) (fun (hc44_21 : ¬ ((lcmpW ((q0 + (1000000000 : Int64)) - q3) (0 : Int64)).toInt ≤ 0)) => ?_)
  · refine go_aloadN 62 rfl d3_61 rfl rfl ?_
    refine go_get 0 0 65 rfl d3_62 rfl rfl rfl (wd hw 10 rfl) ?_
    refine go_aloadN 66 rfl d3_65 rfl rfl ?_
    refine go_get 0 2 69 rfl d3_66 rfl rfl rfl (wd hw 19 rfl) ?_
    refine go_lloadN 70 rfl d3_69 rfl ?_
    refine go_lastore 1 71 rfl d3_70 rfl rfl (by decide) (Nat.le_of_ble_eq_true rfl) ?_
    show Go B3_21 Z a0 h0 _ 0 0 [ob a5 "com/example/offboard/offboard/fix/Throttle" [("com/example/offboard/offboard/fix/Throttle", "passed", "[J", (.ref a6)), ("com/example/offboard/offboard/fix/Throttle", "count", "I", (.int (3 : Int32))), ("com/example/offboard/offboard/fix/Throttle", "next", "I", (.int (0 : Int32)))], ar a6 .long [(.long q3), (.long q1), (.long q2)]] 71 #[.val (.ref a5), .val (.long q3), .second, .val (.long q3), .second] []
    refine go_aloadN 72 rfl d3_71 rfl rfl ?_
    refine go_aloadN 73 rfl d3_72 rfl rfl ?_
    refine go_get 0 2 76 rfl d3_73 rfl rfl rfl (wd hw 19 rfl) ?_
    refine go_iconst (1 : Int32) 77 rfl d3_76 rfl ?_
    refine go_iadd 78 rfl d3_77 rfl ?_
    show Go B3_21 Z a0 h0 _ 0 0 [ob a5 "com/example/offboard/offboard/fix/Throttle" [("com/example/offboard/offboard/fix/Throttle", "passed", "[J", (.ref a6)), ("com/example/offboard/offboard/fix/Throttle", "count", "I", (.int (3 : Int32))), ("com/example/offboard/offboard/fix/Throttle", "next", "I", (.int (0 : Int32)))], ar a6 .long [(.long q3), (.long q1), (.long q2)]] 78 #[.val (.ref a5), .val (.long q3), .second, .val (.long q3), .second] [(.int (1 : Int32)), (.ref a5)]
    refine go_aloadN 79 rfl d3_78 rfl rfl ?_
    refine go_get 0 0 82 rfl d3_79 rfl rfl rfl (wd hw 10 rfl) ?_
    refine go_alen 1 83 rfl d3_82 rfl rfl ?_
    show Go B3_21 Z a0 h0 _ 0 0 [ob a5 "com/example/offboard/offboard/fix/Throttle" [("com/example/offboard/offboard/fix/Throttle", "passed", "[J", (.ref a6)), ("com/example/offboard/offboard/fix/Throttle", "count", "I", (.int (3 : Int32))), ("com/example/offboard/offboard/fix/Throttle", "next", "I", (.int (0 : Int32)))], ar a6 .long [(.long q3), (.long q1), (.long q2)]] 83 #[.val (.ref a5), .val (.long q3), .second, .val (.long q3), .second] [(.int (3 : Int32)), (.int (1 : Int32)), (.ref a5)]
    refine go_irem 84 rfl d3_83 rfl (by decide) ?_
    show Go B3_21 Z a0 h0 _ 0 0 [ob a5 "com/example/offboard/offboard/fix/Throttle" [("com/example/offboard/offboard/fix/Throttle", "passed", "[J", (.ref a6)), ("com/example/offboard/offboard/fix/Throttle", "count", "I", (.int (3 : Int32))), ("com/example/offboard/offboard/fix/Throttle", "next", "I", (.int (0 : Int32)))], ar a6 .long [(.long q3), (.long q1), (.long q2)]] 84 #[.val (.ref a5), .val (.long q3), .second, .val (.long q3), .second] [(.int (1 : Int32)), (.ref a5)]
    refine go_put 0 2 87 rfl d3_84 rfl rfl rfl (wd hw 19 rfl) (Or.inl (wd hw 20 rfl)) (wd hw 1 rfl) (ty := .int) (by decide) rfl rfl ?_
    show Go B3_21 Z a0 h0 _ 0 0 [ob a5 "com/example/offboard/offboard/fix/Throttle" [("com/example/offboard/offboard/fix/Throttle", "passed", "[J", (.ref a6)), ("com/example/offboard/offboard/fix/Throttle", "count", "I", (.int (3 : Int32))), ("com/example/offboard/offboard/fix/Throttle", "next", "I", (.int (1 : Int32)))], ar a6 .long [(.long q3), (.long q1), (.long q2)]] 87 #[.val (.ref a5), .val (.long q3), .second, .val (.long q3), .second] []
    refine go_lloadN 88 rfl d3_87 rfl ?_
    exact go_lreturn d3_88 rfl rfl (by decide) (by decide) (by unfold Ret; rw [lt1_pos hc44_21]; exact ⟨rfl, rfl⟩)
  · refine go_aloadN 48 rfl d3_47 rfl rfl ?_
    refine go_get 0 0 51 rfl d3_48 rfl rfl rfl (wd hw 10 rfl) ?_
    refine go_aloadN 52 rfl d3_51 rfl rfl ?_
    refine go_get 0 2 55 rfl d3_52 rfl rfl rfl (wd hw 19 rfl) ?_
    refine go_laload 56 rfl d3_55 rfl (Mo.el (i := 1) rfl (by decide) rfl) ?_
    refine go_getS 59 rfl d3_56 (wd hw 21 rfl) SW ?_
    refine go_ladd 60 rfl d3_59 rfl ?_
    refine go_lstoreN #[.val (.ref a5), .val (.long q3), .second, .val (.long (q0 + (1000000000 : Int64))), .second] 61 rfl d3_60 rfl rfl ?_
    refine go_aloadN 62 rfl d3_61 rfl rfl ?_
    refine go_get 0 0 65 rfl d3_62 rfl rfl rfl (wd hw 10 rfl) ?_
    refine go_aloadN 66 rfl d3_65 rfl rfl ?_
    refine go_get 0 2 69 rfl d3_66 rfl rfl rfl (wd hw 19 rfl) ?_
    refine go_lloadN 70 rfl d3_69 rfl ?_
    refine go_lastore 1 71 rfl d3_70 rfl rfl (by decide) (Nat.le_of_ble_eq_true rfl) ?_
    show Go B3_21 Z a0 h0 _ 0 0 [ob a5 "com/example/offboard/offboard/fix/Throttle" [("com/example/offboard/offboard/fix/Throttle", "passed", "[J", (.ref a6)), ("com/example/offboard/offboard/fix/Throttle", "count", "I", (.int (3 : Int32))), ("com/example/offboard/offboard/fix/Throttle", "next", "I", (.int (0 : Int32)))], ar a6 .long [(.long (q0 + (1000000000 : Int64))), (.long q1), (.long q2)]] 71 #[.val (.ref a5), .val (.long q3), .second, .val (.long (q0 + (1000000000 : Int64))), .second] []
    refine go_aloadN 72 rfl d3_71 rfl rfl ?_
    refine go_aloadN 73 rfl d3_72 rfl rfl ?_
    refine go_get 0 2 76 rfl d3_73 rfl rfl rfl (wd hw 19 rfl) ?_
    refine go_iconst (1 : Int32) 77 rfl d3_76 rfl ?_
    refine go_iadd 78 rfl d3_77 rfl ?_
    show Go B3_21 Z a0 h0 _ 0 0 [ob a5 "com/example/offboard/offboard/fix/Throttle" [("com/example/offboard/offboard/fix/Throttle", "passed", "[J", (.ref a6)), ("com/example/offboard/offboard/fix/Throttle", "count", "I", (.int (3 : Int32))), ("com/example/offboard/offboard/fix/Throttle", "next", "I", (.int (0 : Int32)))], ar a6 .long [(.long (q0 + (1000000000 : Int64))), (.long q1), (.long q2)]] 78 #[.val (.ref a5), .val (.long q3), .second, .val (.long (q0 + (1000000000 : Int64))), .second] [(.int (1 : Int32)), (.ref a5)]
    refine go_aloadN 79 rfl d3_78 rfl rfl ?_
    refine go_get 0 0 82 rfl d3_79 rfl rfl rfl (wd hw 10 rfl) ?_
    refine go_alen 1 83 rfl d3_82 rfl rfl ?_
    show Go B3_21 Z a0 h0 _ 0 0 [ob a5 "com/example/offboard/offboard/fix/Throttle" [("com/example/offboard/offboard/fix/Throttle", "passed", "[J", (.ref a6)), ("com/example/offboard/offboard/fix/Throttle", "count", "I", (.int (3 : Int32))), ("com/example/offboard/offboard/fix/Throttle", "next", "I", (.int (0 : Int32)))], ar a6 .long [(.long (q0 + (1000000000 : Int64))), (.long q1), (.long q2)]] 83 #[.val (.ref a5), .val (.long q3), .second, .val (.long (q0 + (1000000000 : Int64))), .second] [(.int (3 : Int32)), (.int (1 : Int32)), (.ref a5)]
    refine go_irem 84 rfl d3_83 rfl (by decide) ?_
    show Go B3_21 Z a0 h0 _ 0 0 [ob a5 "com/example/offboard/offboard/fix/Throttle" [("com/example/offboard/offboard/fix/Throttle", "passed", "[J", (.ref a6)), ("com/example/offboard/offboard/fix/Throttle", "count", "I", (.int (3 : Int32))), ("com/example/offboard/offboard/fix/Throttle", "next", "I", (.int (0 : Int32)))], ar a6 .long [(.long (q0 + (1000000000 : Int64))), (.long q1), (.long q2)]] 84 #[.val (.ref a5), .val (.long q3), .second, .val (.long (q0 + (1000000000 : Int64))), .second] [(.int (1 : Int32)), (.ref a5)]
    refine go_put 0 2 87 rfl d3_84 rfl rfl rfl (wd hw 19 rfl) (Or.inl (wd hw 20 rfl)) (wd hw 1 rfl) (ty := .int) (by decide) rfl rfl ?_
    show Go B3_21 Z a0 h0 _ 0 0 [ob a5 "com/example/offboard/offboard/fix/Throttle" [("com/example/offboard/offboard/fix/Throttle", "passed", "[J", (.ref a6)), ("com/example/offboard/offboard/fix/Throttle", "count", "I", (.int (3 : Int32))), ("com/example/offboard/offboard/fix/Throttle", "next", "I", (.int (1 : Int32)))], ar a6 .long [(.long (q0 + (1000000000 : Int64))), (.long q1), (.long q2)]] 87 #[.val (.ref a5), .val (.long q3), .second, .val (.long (q0 + (1000000000 : Int64))), .second] []
    refine go_lloadN 88 rfl d3_87 rfl ?_
    exact go_lreturn d3_88 rfl rfl (by decide) (by decide) (by unfold Ret; rw [lt1_neg hc44_21]; exact ⟨rfl, rfl⟩)
def B1_23 : Bdy := (⟨"com/example/offboard/offboard/fix/Throttle", "<init>", "(I)V"⟩, prog_83_method_1_code, 2, none, ({ frames := 1, cells := 1, slots := 4, locals := 12 } : Room))
set_option maxRecDepth 65536 in
set_option maxHeartbeats 4000000 in
theorem mt23 (Z : State) (a0 : Array Value) (hw : ∀ d ∈ tables_1, d.before a0 Z = true) (h0 : Heap) (SW : Sta Z h0 "com/example/offboard/offboard/fix/Throttle" "WINDOW_NANOS" "J" (.long 1000000000)) (a7 : Addr) :
    Met B1_23 Z a0 h0 #[(.ref a7), (.int (4 : Int32))] [ob a7 "com/example/offboard/offboard/fix/Throttle" [("com/example/offboard/offboard/fix/Throttle", "passed", "[J", .null), ("com/example/offboard/offboard/fix/Throttle", "count", "I", (.int (0 : Int32))), ("com/example/offboard/offboard/fix/Throttle", "next", "I", (.int (0 : Int32)))]] (fun v ds => ∃ a108 : Addr, Ret none [ob a7 "com/example/offboard/offboard/fix/Throttle" [("com/example/offboard/offboard/fix/Throttle", "passed", "[J", (.ref a108)), ("com/example/offboard/offboard/fix/Throttle", "count", "I", (.int (0 : Int32))), ("com/example/offboard/offboard/fix/Throttle", "next", "I", (.int (0 : Int32)))], ar a108 .long [(.long (0 : Int64)), (.long (0 : Int64)), (.long (0 : Int64)), (.long (0 : Int64))]] v ds) := by
  refine Met.of pn1 (ls := #[.val (.ref a7), .val (.int (4 : Int32))]) (fun m => by first | (simp [entryFrame, mkF, argsToLocals, Value.category, B1_23]; done) | rfl) ?_
  show Go B1_23 Z a0 h0 _ 0 0 [ob a7 "com/example/offboard/offboard/fix/Throttle" [("com/example/offboard/offboard/fix/Throttle", "passed", "[J", .null), ("com/example/offboard/offboard/fix/Throttle", "count", "I", (.int (0 : Int32))), ("com/example/offboard/offboard/fix/Throttle", "next", "I", (.int (0 : Int32)))]] 0 #[.val (.ref a7), .val (.int (4 : Int32))] []
  refine go_aloadN 1 rfl d1_0 rfl rfl ?_
  refine go_initObj 4 rfl d1_1 rfl (wd hw 6 rfl) (wd hw 7 rfl) (wd hw 8 rfl) rfl (by decide) (by decide) ?_
  refine go_iloadN 5 rfl d1_4 rfl ?_
  refine go_if 22 8 rfl (by decide) rfl d1_5 rfl (fun (hc5 : 0 < (4 : Int)) => ?_) (fun (hc5 : ¬ (0 < (4 : Int))) => absurd hc5 (by decide))
  refine go_aloadN 23 rfl d1_22 rfl rfl ?_
  refine go_iloadN 24 rfl d1_23 rfl ?_
  refine go_newarr 26 rfl d1_24 rfl (wd hw 9 rfl) (by decide) 4 (by decide) (by decide) (by decide) (by decide) (fun a108 => ?_)
  show Go B1_23 Z a0 h0 _ 1 4 [ob a7 "com/example/offboard/offboard/fix/Throttle" [("com/example/offboard/offboard/fix/Throttle", "passed", "[J", .null), ("com/example/offboard/offboard/fix/Throttle", "count", "I", (.int (0 : Int32))), ("com/example/offboard/offboard/fix/Throttle", "next", "I", (.int (0 : Int32)))], ar a108 .long [(.long (0 : Int64)), (.long (0 : Int64)), (.long (0 : Int64)), (.long (0 : Int64))]] 26 #[.val (.ref a7), .val (.int (4 : Int32))] [(.ref a108), (.ref a7)]
  refine go_put 0 0 29 rfl d1_26 rfl rfl rfl (wd hw 10 rfl) (Or.inr ⟨(wd hw 11 rfl), rfl, rfl⟩) (wd hw 1 rfl) (ty := (.array .long)) (by decide) rfl rfl ?_
  show Go B1_23 Z a0 h0 _ 1 4 [ob a7 "com/example/offboard/offboard/fix/Throttle" [("com/example/offboard/offboard/fix/Throttle", "passed", "[J", (.ref a108)), ("com/example/offboard/offboard/fix/Throttle", "count", "I", (.int (0 : Int32))), ("com/example/offboard/offboard/fix/Throttle", "next", "I", (.int (0 : Int32)))], ar a108 .long [(.long (0 : Int64)), (.long (0 : Int64)), (.long (0 : Int64)), (.long (0 : Int64))]] 29 #[.val (.ref a7), .val (.int (4 : Int32))] []
  exact go_return d1_29 rfl rfl (by decide) (by decide) ⟨a108, rfl, rfl⟩
def B3_24 : Bdy := (⟨"com/example/offboard/offboard/fix/Throttle", "pass", "(J)J"⟩, prog_83_method_2_code, 5, (some .long), ({ frames := 0, cells := 0, slots := 0, locals := 0 } : Room))
set_option maxRecDepth 65536 in
set_option maxHeartbeats 4000000 in
theorem mt24 (Z : State) (a0 : Array Value) (hw : ∀ d ∈ tables_1, d.before a0 Z = true) (h0 : Heap) (SW : Sta Z h0 "com/example/offboard/offboard/fix/Throttle" "WINDOW_NANOS" "J" (.long 1000000000)) (a7 : Addr) (a8 : Addr) (q0 : Int64) :
    Met B3_24 Z a0 h0 #[(.ref a7), (.long q0)] [ob a7 "com/example/offboard/offboard/fix/Throttle" [("com/example/offboard/offboard/fix/Throttle", "passed", "[J", (.ref a8)), ("com/example/offboard/offboard/fix/Throttle", "count", "I", (.int (0 : Int32))), ("com/example/offboard/offboard/fix/Throttle", "next", "I", (.int (0 : Int32)))], ar a8 .long [(.long (0 : Int64)), (.long (0 : Int64)), (.long (0 : Int64)), (.long (0 : Int64))]] (Ret (some (.long q0)) [ob a7 "com/example/offboard/offboard/fix/Throttle" [("com/example/offboard/offboard/fix/Throttle", "passed", "[J", (.ref a8)), ("com/example/offboard/offboard/fix/Throttle", "count", "I", (.int (1 : Int32))), ("com/example/offboard/offboard/fix/Throttle", "next", "I", (.int (1 : Int32)))], ar a8 .long [(.long q0), (.long (0 : Int64)), (.long (0 : Int64)), (.long (0 : Int64))]]) := by
  refine Met.of pn3 (ls := #[.val (.ref a7), .val (.long q0), .second, .unset, .unset]) (fun m => by first | (simp [entryFrame, mkF, argsToLocals, Value.category, B3_24]; done) | rfl) ?_
  show Go B3_24 Z a0 h0 _ 0 0 [ob a7 "com/example/offboard/offboard/fix/Throttle" [("com/example/offboard/offboard/fix/Throttle", "passed", "[J", (.ref a8)), ("com/example/offboard/offboard/fix/Throttle", "count", "I", (.int (0 : Int32))), ("com/example/offboard/offboard/fix/Throttle", "next", "I", (.int (0 : Int32)))], ar a8 .long [(.long (0 : Int64)), (.long (0 : Int64)), (.long (0 : Int64)), (.long (0 : Int64))]] 0 #[.val (.ref a7), .val (.long q0), .second, .unset, .unset] []
  refine go_lloadN 1 rfl d3_0 rfl ?_
  refine go_lstoreN #[.val (.ref a7), .val (.long q0), .second, .val (.long q0), .second] 2 rfl d3_1 rfl rfl ?_
  refine go_aloadN 3 rfl d3_2 rfl rfl ?_
  refine go_get 0 1 6 rfl d3_3 rfl rfl rfl (wd hw 17 rfl) ?_
  refine go_aloadN 7 rfl d3_6 rfl rfl ?_
  refine go_get 0 0 10 rfl d3_7 rfl rfl rfl (wd hw 10 rfl) ?_
  refine go_alen 1 11 rfl d3_10 rfl rfl ?_
  show Go B3_24 Z a0 h0 _ 0 0 [ob a7 "com/example/offboard/offboard/fix/Throttle" [("com/example/offboard/offboard/fix/Throttle", "passed", "[J", (.ref a8)), ("com/example/offboard/offboard/fix/Throttle", "count", "I", (.int (0 : Int32))), ("com/example/offboard/offboard/fix/Throttle", "next", "I", (.int (0 : Int32)))], ar a8 .long [(.long (0 : Int64)), (.long (0 : Int64)), (.long (0 : Int64)), (.long (0 : Int64))]] 11 #[.val (.ref a7), .val (.long q0), .second, .val (.long q0), .second] [(.int (4 : Int32)), (.int (0 : Int32))]
  refine go_icmp 27 14 rfl (by decide) rfl d3_11 rfl (fun (hc11 : (4 : Int) ≤ (0 : Int)) => absurd hc11 (by decide)) (fun (hc11 : ¬ ((4 : Int) ≤ (0 : Int))) => ?_)
  refine go_aloadN 15 rfl d3_14 rfl rfl ?_
  refine go_dup 16 rfl d3_15 rfl rfl ?_
  refine go_get 0 1 19 rfl d3_16 rfl rfl rfl (wd hw 17 rfl) ?_
  refine go_iconst (1 : Int32) 20 rfl d3_19 rfl ?_
  refine go_iadd 21 rfl d3_20 rfl ?_
  show Go B3_24 Z a0 h0 _ 0 0 [ob a7 "com/example/offboard/offboard/fix/Throttle" [("com/example/offboard/offboard/fix/Throttle", "passed", "[J", (.ref a8)), ("com/example/offboard/offboard/fix/Throttle", "count", "I", (.int (0 : Int32))), ("com/example/offboard/offboard/fix/Throttle", "next", "I", (.int (0 : Int32)))], ar a8 .long [(.long (0 : Int64)), (.long (0 : Int64)), (.long (0 : Int64)), (.long (0 : Int64))]] 21 #[.val (.ref a7), .val (.long q0), .second, .val (.long q0), .second] [(.int (1 : Int32)), (.ref a7)]
  refine go_put 0 1 24 rfl d3_21 rfl rfl rfl (wd hw 17 rfl) (Or.inl (wd hw 18 rfl)) (wd hw 1 rfl) (ty := .int) (by decide) rfl rfl ?_
  show Go B3_24 Z a0 h0 _ 0 0 [ob a7 "com/example/offboard/offboard/fix/Throttle" [("com/example/offboard/offboard/fix/Throttle", "passed", "[J", (.ref a8)), ("com/example/offboard/offboard/fix/Throttle", "count", "I", (.int (1 : Int32))), ("com/example/offboard/offboard/fix/Throttle", "next", "I", (.int (0 : Int32)))], ar a8 .long [(.long (0 : Int64)), (.long (0 : Int64)), (.long (0 : Int64)), (.long (0 : Int64))]] 24 #[.val (.ref a7), .val (.long q0), .second, .val (.long q0), .second] []
  refine go_goto 61 (by decide) rfl d3_24 ?_
  refine go_aloadN 62 rfl d3_61 rfl rfl ?_
  refine go_get 0 0 65 rfl d3_62 rfl rfl rfl (wd hw 10 rfl) ?_
  refine go_aloadN 66 rfl d3_65 rfl rfl ?_
  refine go_get 0 2 69 rfl d3_66 rfl rfl rfl (wd hw 19 rfl) ?_
  refine go_lloadN 70 rfl d3_69 rfl ?_
  refine go_lastore 1 71 rfl d3_70 rfl rfl (by decide) (Nat.le_of_ble_eq_true rfl) ?_
  show Go B3_24 Z a0 h0 _ 0 0 [ob a7 "com/example/offboard/offboard/fix/Throttle" [("com/example/offboard/offboard/fix/Throttle", "passed", "[J", (.ref a8)), ("com/example/offboard/offboard/fix/Throttle", "count", "I", (.int (1 : Int32))), ("com/example/offboard/offboard/fix/Throttle", "next", "I", (.int (0 : Int32)))], ar a8 .long [(.long q0), (.long (0 : Int64)), (.long (0 : Int64)), (.long (0 : Int64))]] 71 #[.val (.ref a7), .val (.long q0), .second, .val (.long q0), .second] []
  refine go_aloadN 72 rfl d3_71 rfl rfl ?_
  refine go_aloadN 73 rfl d3_72 rfl rfl ?_
  refine go_get 0 2 76 rfl d3_73 rfl rfl rfl (wd hw 19 rfl) ?_
  refine go_iconst (1 : Int32) 77 rfl d3_76 rfl ?_
  refine go_iadd 78 rfl d3_77 rfl ?_
  show Go B3_24 Z a0 h0 _ 0 0 [ob a7 "com/example/offboard/offboard/fix/Throttle" [("com/example/offboard/offboard/fix/Throttle", "passed", "[J", (.ref a8)), ("com/example/offboard/offboard/fix/Throttle", "count", "I", (.int (1 : Int32))), ("com/example/offboard/offboard/fix/Throttle", "next", "I", (.int (0 : Int32)))], ar a8 .long [(.long q0), (.long (0 : Int64)), (.long (0 : Int64)), (.long (0 : Int64))]] 78 #[.val (.ref a7), .val (.long q0), .second, .val (.long q0), .second] [(.int (1 : Int32)), (.ref a7)]
  refine go_aloadN 79 rfl d3_78 rfl rfl ?_
  refine go_get 0 0 82 rfl d3_79 rfl rfl rfl (wd hw 10 rfl) ?_
  refine go_alen 1 83 rfl d3_82 rfl rfl ?_
  show Go B3_24 Z a0 h0 _ 0 0 [ob a7 "com/example/offboard/offboard/fix/Throttle" [("com/example/offboard/offboard/fix/Throttle", "passed", "[J", (.ref a8)), ("com/example/offboard/offboard/fix/Throttle", "count", "I", (.int (1 : Int32))), ("com/example/offboard/offboard/fix/Throttle", "next", "I", (.int (0 : Int32)))], ar a8 .long [(.long q0), (.long (0 : Int64)), (.long (0 : Int64)), (.long (0 : Int64))]] 83 #[.val (.ref a7), .val (.long q0), .second, .val (.long q0), .second] [(.int (4 : Int32)), (.int (1 : Int32)), (.ref a7)]
  refine go_irem 84 rfl d3_83 rfl (by decide) ?_
  show Go B3_24 Z a0 h0 _ 0 0 [ob a7 "com/example/offboard/offboard/fix/Throttle" [("com/example/offboard/offboard/fix/Throttle", "passed", "[J", (.ref a8)), ("com/example/offboard/offboard/fix/Throttle", "count", "I", (.int (1 : Int32))), ("com/example/offboard/offboard/fix/Throttle", "next", "I", (.int (0 : Int32)))], ar a8 .long [(.long q0), (.long (0 : Int64)), (.long (0 : Int64)), (.long (0 : Int64))]] 84 #[.val (.ref a7), .val (.long q0), .second, .val (.long q0), .second] [(.int (1 : Int32)), (.ref a7)]
  refine go_put 0 2 87 rfl d3_84 rfl rfl rfl (wd hw 19 rfl) (Or.inl (wd hw 20 rfl)) (wd hw 1 rfl) (ty := .int) (by decide) rfl rfl ?_
  show Go B3_24 Z a0 h0 _ 0 0 [ob a7 "com/example/offboard/offboard/fix/Throttle" [("com/example/offboard/offboard/fix/Throttle", "passed", "[J", (.ref a8)), ("com/example/offboard/offboard/fix/Throttle", "count", "I", (.int (1 : Int32))), ("com/example/offboard/offboard/fix/Throttle", "next", "I", (.int (1 : Int32)))], ar a8 .long [(.long q0), (.long (0 : Int64)), (.long (0 : Int64)), (.long (0 : Int64))]] 87 #[.val (.ref a7), .val (.long q0), .second, .val (.long q0), .second] []
  refine go_lloadN 88 rfl d3_87 rfl ?_
  exact go_lreturn d3_88 rfl rfl (by decide) (by decide) ⟨rfl, rfl⟩
def B3_25 : Bdy := (⟨"com/example/offboard/offboard/fix/Throttle", "pass", "(J)J"⟩, prog_83_method_2_code, 5, (some .long), ({ frames := 0, cells := 0, slots := 0, locals := 0 } : Room))
set_option maxRecDepth 65536 in
set_option maxHeartbeats 4000000 in
theorem mt25 (Z : State) (a0 : Array Value) (hw : ∀ d ∈ tables_1, d.before a0 Z = true) (h0 : Heap) (SW : Sta Z h0 "com/example/offboard/offboard/fix/Throttle" "WINDOW_NANOS" "J" (.long 1000000000)) (a7 : Addr) (a8 : Addr) (q0 : Int64) (q1 : Int64) :
    Met B3_25 Z a0 h0 #[(.ref a7), (.long q1)] [ob a7 "com/example/offboard/offboard/fix/Throttle" [("com/example/offboard/offboard/fix/Throttle", "passed", "[J", (.ref a8)), ("com/example/offboard/offboard/fix/Throttle", "count", "I", (.int (1 : Int32))), ("com/example/offboard/offboard/fix/Throttle", "next", "I", (.int (1 : Int32)))], ar a8 .long [(.long q0), (.long (0 : Int64)), (.long (0 : Int64)), (.long (0 : Int64))]] (Ret (some (.long q1)) [ob a7 "com/example/offboard/offboard/fix/Throttle" [("com/example/offboard/offboard/fix/Throttle", "passed", "[J", (.ref a8)), ("com/example/offboard/offboard/fix/Throttle", "count", "I", (.int (2 : Int32))), ("com/example/offboard/offboard/fix/Throttle", "next", "I", (.int (2 : Int32)))], ar a8 .long [(.long q0), (.long q1), (.long (0 : Int64)), (.long (0 : Int64))]]) := by
  refine Met.of pn3 (ls := #[.val (.ref a7), .val (.long q1), .second, .unset, .unset]) (fun m => by first | (simp [entryFrame, mkF, argsToLocals, Value.category, B3_25]; done) | rfl) ?_
  show Go B3_25 Z a0 h0 _ 0 0 [ob a7 "com/example/offboard/offboard/fix/Throttle" [("com/example/offboard/offboard/fix/Throttle", "passed", "[J", (.ref a8)), ("com/example/offboard/offboard/fix/Throttle", "count", "I", (.int (1 : Int32))), ("com/example/offboard/offboard/fix/Throttle", "next", "I", (.int (1 : Int32)))], ar a8 .long [(.long q0), (.long (0 : Int64)), (.long (0 : Int64)), (.long (0 : Int64))]] 0 #[.val (.ref a7), .val (.long q1), .second, .unset, .unset] []
  refine go_lloadN 1 rfl d3_0 rfl ?_
  refine go_lstoreN #[.val (.ref a7), .val (.long q1), .second, .val (.long q1), .second] 2 rfl d3_1 rfl rfl ?_
  refine go_aloadN 3 rfl d3_2 rfl rfl ?_
  refine go_get 0 1 6 rfl d3_3 rfl rfl rfl (wd hw 17 rfl) ?_
  refine go_aloadN 7 rfl d3_6 rfl rfl ?_
  refine go_get 0 0 10 rfl d3_7 rfl rfl rfl (wd hw 10 rfl) ?_
  refine go_alen 1 11 rfl d3_10 rfl rfl ?_
  show Go B3_25 Z a0 h0 _ 0 0 [ob a7 "com/example/offboard/offboard/fix/Throttle" [("com/example/offboard/offboard/fix/Throttle", "passed", "[J", (.ref a8)), ("com/example/offboard/offboard/fix/Throttle", "count", "I", (.int (1 : Int32))), ("com/example/offboard/offboard/fix/Throttle", "next", "I", (.int (1 : Int32)))], ar a8 .long [(.long q0), (.long (0 : Int64)), (.long (0 : Int64)), (.long (0 : Int64))]] 11 #[.val (.ref a7), .val (.long q1), .second, .val (.long q1), .second] [(.int (4 : Int32)), (.int (1 : Int32))]
  refine go_icmp 27 14 rfl (by decide) rfl d3_11 rfl (fun (hc11 : (4 : Int) ≤ (1 : Int)) => absurd hc11 (by decide)) (fun (hc11 : ¬ ((4 : Int) ≤ (1 : Int))) => ?_)
  refine go_aloadN 15 rfl d3_14 rfl rfl ?_
  refine go_dup 16 rfl d3_15 rfl rfl ?_
  refine go_get 0 1 19 rfl d3_16 rfl rfl rfl (wd hw 17 rfl) ?_
  refine go_iconst (1 : Int32) 20 rfl d3_19 rfl ?_
  refine go_iadd 21 rfl d3_20 rfl ?_
  show Go B3_25 Z a0 h0 _ 0 0 [ob a7 "com/example/offboard/offboard/fix/Throttle" [("com/example/offboard/offboard/fix/Throttle", "passed", "[J", (.ref a8)), ("com/example/offboard/offboard/fix/Throttle", "count", "I", (.int (1 : Int32))), ("com/example/offboard/offboard/fix/Throttle", "next", "I", (.int (1 : Int32)))], ar a8 .long [(.long q0), (.long (0 : Int64)), (.long (0 : Int64)), (.long (0 : Int64))]] 21 #[.val (.ref a7), .val (.long q1), .second, .val (.long q1), .second] [(.int (2 : Int32)), (.ref a7)]
  refine go_put 0 1 24 rfl d3_21 rfl rfl rfl (wd hw 17 rfl) (Or.inl (wd hw 18 rfl)) (wd hw 1 rfl) (ty := .int) (by decide) rfl rfl ?_
  show Go B3_25 Z a0 h0 _ 0 0 [ob a7 "com/example/offboard/offboard/fix/Throttle" [("com/example/offboard/offboard/fix/Throttle", "passed", "[J", (.ref a8)), ("com/example/offboard/offboard/fix/Throttle", "count", "I", (.int (2 : Int32))), ("com/example/offboard/offboard/fix/Throttle", "next", "I", (.int (1 : Int32)))], ar a8 .long [(.long q0), (.long (0 : Int64)), (.long (0 : Int64)), (.long (0 : Int64))]] 24 #[.val (.ref a7), .val (.long q1), .second, .val (.long q1), .second] []
  refine go_goto 61 (by decide) rfl d3_24 ?_
  refine go_aloadN 62 rfl d3_61 rfl rfl ?_
  refine go_get 0 0 65 rfl d3_62 rfl rfl rfl (wd hw 10 rfl) ?_
  refine go_aloadN 66 rfl d3_65 rfl rfl ?_
  refine go_get 0 2 69 rfl d3_66 rfl rfl rfl (wd hw 19 rfl) ?_
  refine go_lloadN 70 rfl d3_69 rfl ?_
  refine go_lastore 1 71 rfl d3_70 rfl rfl (by decide) (Nat.le_of_ble_eq_true rfl) ?_
  show Go B3_25 Z a0 h0 _ 0 0 [ob a7 "com/example/offboard/offboard/fix/Throttle" [("com/example/offboard/offboard/fix/Throttle", "passed", "[J", (.ref a8)), ("com/example/offboard/offboard/fix/Throttle", "count", "I", (.int (2 : Int32))), ("com/example/offboard/offboard/fix/Throttle", "next", "I", (.int (1 : Int32)))], ar a8 .long [(.long q0), (.long q1), (.long (0 : Int64)), (.long (0 : Int64))]] 71 #[.val (.ref a7), .val (.long q1), .second, .val (.long q1), .second] []
  refine go_aloadN 72 rfl d3_71 rfl rfl ?_
  refine go_aloadN 73 rfl d3_72 rfl rfl ?_
  refine go_get 0 2 76 rfl d3_73 rfl rfl rfl (wd hw 19 rfl) ?_
  refine go_iconst (1 : Int32) 77 rfl d3_76 rfl ?_
  refine go_iadd 78 rfl d3_77 rfl ?_
  show Go B3_25 Z a0 h0 _ 0 0 [ob a7 "com/example/offboard/offboard/fix/Throttle" [("com/example/offboard/offboard/fix/Throttle", "passed", "[J", (.ref a8)), ("com/example/offboard/offboard/fix/Throttle", "count", "I", (.int (2 : Int32))), ("com/example/offboard/offboard/fix/Throttle", "next", "I", (.int (1 : Int32)))], ar a8 .long [(.long q0), (.long q1), (.long (0 : Int64)), (.long (0 : Int64))]] 78 #[.val (.ref a7), .val (.long q1), .second, .val (.long q1), .second] [(.int (2 : Int32)), (.ref a7)]
  refine go_aloadN 79 rfl d3_78 rfl rfl ?_
  refine go_get 0 0 82 rfl d3_79 rfl rfl rfl (wd hw 10 rfl) ?_
  refine go_alen 1 83 rfl d3_82 rfl rfl ?_
  show Go B3_25 Z a0 h0 _ 0 0 [ob a7 "com/example/offboard/offboard/fix/Throttle" [("com/example/offboard/offboard/fix/Throttle", "passed", "[J", (.ref a8)), ("com/example/offboard/offboard/fix/Throttle", "count", "I", (.int (2 : Int32))), ("com/example/offboard/offboard/fix/Throttle", "next", "I", (.int (1 : Int32)))], ar a8 .long [(.long q0), (.long q1), (.long (0 : Int64)), (.long (0 : Int64))]] 83 #[.val (.ref a7), .val (.long q1), .second, .val (.long q1), .second] [(.int (4 : Int32)), (.int (2 : Int32)), (.ref a7)]
  refine go_irem 84 rfl d3_83 rfl (by decide) ?_
  show Go B3_25 Z a0 h0 _ 0 0 [ob a7 "com/example/offboard/offboard/fix/Throttle" [("com/example/offboard/offboard/fix/Throttle", "passed", "[J", (.ref a8)), ("com/example/offboard/offboard/fix/Throttle", "count", "I", (.int (2 : Int32))), ("com/example/offboard/offboard/fix/Throttle", "next", "I", (.int (1 : Int32)))], ar a8 .long [(.long q0), (.long q1), (.long (0 : Int64)), (.long (0 : Int64))]] 84 #[.val (.ref a7), .val (.long q1), .second, .val (.long q1), .second] [(.int (2 : Int32)), (.ref a7)]
  refine go_put 0 2 87 rfl d3_84 rfl rfl rfl (wd hw 19 rfl) (Or.inl (wd hw 20 rfl)) (wd hw 1 rfl) (ty := .int) (by decide) rfl rfl ?_
  show Go B3_25 Z a0 h0 _ 0 0 [ob a7 "com/example/offboard/offboard/fix/Throttle" [("com/example/offboard/offboard/fix/Throttle", "passed", "[J", (.ref a8)), ("com/example/offboard/offboard/fix/Throttle", "count", "I", (.int (2 : Int32))), ("com/example/offboard/offboard/fix/Throttle", "next", "I", (.int (2 : Int32)))], ar a8 .long [(.long q0), (.long q1), (.long (0 : Int64)), (.long (0 : Int64))]] 87 #[.val (.ref a7), .val (.long q1), .second, .val (.long q1), .second] []
  refine go_lloadN 88 rfl d3_87 rfl ?_
  exact go_lreturn d3_88 rfl rfl (by decide) (by decide) ⟨rfl, rfl⟩
def B3_26 : Bdy := (⟨"com/example/offboard/offboard/fix/Throttle", "pass", "(J)J"⟩, prog_83_method_2_code, 5, (some .long), ({ frames := 0, cells := 0, slots := 0, locals := 0 } : Room))
set_option maxRecDepth 65536 in
set_option maxHeartbeats 4000000 in
theorem mt26 (Z : State) (a0 : Array Value) (hw : ∀ d ∈ tables_1, d.before a0 Z = true) (h0 : Heap) (SW : Sta Z h0 "com/example/offboard/offboard/fix/Throttle" "WINDOW_NANOS" "J" (.long 1000000000)) (a7 : Addr) (a8 : Addr) (q0 : Int64) (q1 : Int64) (q2 : Int64) :
    Met B3_26 Z a0 h0 #[(.ref a7), (.long q2)] [ob a7 "com/example/offboard/offboard/fix/Throttle" [("com/example/offboard/offboard/fix/Throttle", "passed", "[J", (.ref a8)), ("com/example/offboard/offboard/fix/Throttle", "count", "I", (.int (2 : Int32))), ("com/example/offboard/offboard/fix/Throttle", "next", "I", (.int (2 : Int32)))], ar a8 .long [(.long q0), (.long q1), (.long (0 : Int64)), (.long (0 : Int64))]] (Ret (some (.long q2)) [ob a7 "com/example/offboard/offboard/fix/Throttle" [("com/example/offboard/offboard/fix/Throttle", "passed", "[J", (.ref a8)), ("com/example/offboard/offboard/fix/Throttle", "count", "I", (.int (3 : Int32))), ("com/example/offboard/offboard/fix/Throttle", "next", "I", (.int (3 : Int32)))], ar a8 .long [(.long q0), (.long q1), (.long q2), (.long (0 : Int64))]]) := by
  refine Met.of pn3 (ls := #[.val (.ref a7), .val (.long q2), .second, .unset, .unset]) (fun m => by first | (simp [entryFrame, mkF, argsToLocals, Value.category, B3_26]; done) | rfl) ?_
  show Go B3_26 Z a0 h0 _ 0 0 [ob a7 "com/example/offboard/offboard/fix/Throttle" [("com/example/offboard/offboard/fix/Throttle", "passed", "[J", (.ref a8)), ("com/example/offboard/offboard/fix/Throttle", "count", "I", (.int (2 : Int32))), ("com/example/offboard/offboard/fix/Throttle", "next", "I", (.int (2 : Int32)))], ar a8 .long [(.long q0), (.long q1), (.long (0 : Int64)), (.long (0 : Int64))]] 0 #[.val (.ref a7), .val (.long q2), .second, .unset, .unset] []
  refine go_lloadN 1 rfl d3_0 rfl ?_
  refine go_lstoreN #[.val (.ref a7), .val (.long q2), .second, .val (.long q2), .second] 2 rfl d3_1 rfl rfl ?_
  refine go_aloadN 3 rfl d3_2 rfl rfl ?_
  refine go_get 0 1 6 rfl d3_3 rfl rfl rfl (wd hw 17 rfl) ?_
  refine go_aloadN 7 rfl d3_6 rfl rfl ?_
  refine go_get 0 0 10 rfl d3_7 rfl rfl rfl (wd hw 10 rfl) ?_
  refine go_alen 1 11 rfl d3_10 rfl rfl ?_
  show Go B3_26 Z a0 h0 _ 0 0 [ob a7 "com/example/offboard/offboard/fix/Throttle" [("com/example/offboard/offboard/fix/Throttle", "passed", "[J", (.ref a8)), ("com/example/offboard/offboard/fix/Throttle", "count", "I", (.int (2 : Int32))), ("com/example/offboard/offboard/fix/Throttle", "next", "I", (.int (2 : Int32)))], ar a8 .long [(.long q0), (.long q1), (.long (0 : Int64)), (.long (0 : Int64))]] 11 #[.val (.ref a7), .val (.long q2), .second, .val (.long q2), .second] [(.int (4 : Int32)), (.int (2 : Int32))]
  refine go_icmp 27 14 rfl (by decide) rfl d3_11 rfl (fun (hc11 : (4 : Int) ≤ (2 : Int)) => absurd hc11 (by decide)) (fun (hc11 : ¬ ((4 : Int) ≤ (2 : Int))) => ?_)
  refine go_aloadN 15 rfl d3_14 rfl rfl ?_
  refine go_dup 16 rfl d3_15 rfl rfl ?_
  refine go_get 0 1 19 rfl d3_16 rfl rfl rfl (wd hw 17 rfl) ?_
  refine go_iconst (1 : Int32) 20 rfl d3_19 rfl ?_
  refine go_iadd 21 rfl d3_20 rfl ?_
  show Go B3_26 Z a0 h0 _ 0 0 [ob a7 "com/example/offboard/offboard/fix/Throttle" [("com/example/offboard/offboard/fix/Throttle", "passed", "[J", (.ref a8)), ("com/example/offboard/offboard/fix/Throttle", "count", "I", (.int (2 : Int32))), ("com/example/offboard/offboard/fix/Throttle", "next", "I", (.int (2 : Int32)))], ar a8 .long [(.long q0), (.long q1), (.long (0 : Int64)), (.long (0 : Int64))]] 21 #[.val (.ref a7), .val (.long q2), .second, .val (.long q2), .second] [(.int (3 : Int32)), (.ref a7)]
  refine go_put 0 1 24 rfl d3_21 rfl rfl rfl (wd hw 17 rfl) (Or.inl (wd hw 18 rfl)) (wd hw 1 rfl) (ty := .int) (by decide) rfl rfl ?_
  show Go B3_26 Z a0 h0 _ 0 0 [ob a7 "com/example/offboard/offboard/fix/Throttle" [("com/example/offboard/offboard/fix/Throttle", "passed", "[J", (.ref a8)), ("com/example/offboard/offboard/fix/Throttle", "count", "I", (.int (3 : Int32))), ("com/example/offboard/offboard/fix/Throttle", "next", "I", (.int (2 : Int32)))], ar a8 .long [(.long q0), (.long q1), (.long (0 : Int64)), (.long (0 : Int64))]] 24 #[.val (.ref a7), .val (.long q2), .second, .val (.long q2), .second] []
  refine go_goto 61 (by decide) rfl d3_24 ?_
  refine go_aloadN 62 rfl d3_61 rfl rfl ?_
  refine go_get 0 0 65 rfl d3_62 rfl rfl rfl (wd hw 10 rfl) ?_
  refine go_aloadN 66 rfl d3_65 rfl rfl ?_
  refine go_get 0 2 69 rfl d3_66 rfl rfl rfl (wd hw 19 rfl) ?_
  refine go_lloadN 70 rfl d3_69 rfl ?_
  refine go_lastore 1 71 rfl d3_70 rfl rfl (by decide) (Nat.le_of_ble_eq_true rfl) ?_
  show Go B3_26 Z a0 h0 _ 0 0 [ob a7 "com/example/offboard/offboard/fix/Throttle" [("com/example/offboard/offboard/fix/Throttle", "passed", "[J", (.ref a8)), ("com/example/offboard/offboard/fix/Throttle", "count", "I", (.int (3 : Int32))), ("com/example/offboard/offboard/fix/Throttle", "next", "I", (.int (2 : Int32)))], ar a8 .long [(.long q0), (.long q1), (.long q2), (.long (0 : Int64))]] 71 #[.val (.ref a7), .val (.long q2), .second, .val (.long q2), .second] []
  refine go_aloadN 72 rfl d3_71 rfl rfl ?_
  refine go_aloadN 73 rfl d3_72 rfl rfl ?_
  refine go_get 0 2 76 rfl d3_73 rfl rfl rfl (wd hw 19 rfl) ?_
  refine go_iconst (1 : Int32) 77 rfl d3_76 rfl ?_
  refine go_iadd 78 rfl d3_77 rfl ?_
  show Go B3_26 Z a0 h0 _ 0 0 [ob a7 "com/example/offboard/offboard/fix/Throttle" [("com/example/offboard/offboard/fix/Throttle", "passed", "[J", (.ref a8)), ("com/example/offboard/offboard/fix/Throttle", "count", "I", (.int (3 : Int32))), ("com/example/offboard/offboard/fix/Throttle", "next", "I", (.int (2 : Int32)))], ar a8 .long [(.long q0), (.long q1), (.long q2), (.long (0 : Int64))]] 78 #[.val (.ref a7), .val (.long q2), .second, .val (.long q2), .second] [(.int (3 : Int32)), (.ref a7)]
  refine go_aloadN 79 rfl d3_78 rfl rfl ?_
  refine go_get 0 0 82 rfl d3_79 rfl rfl rfl (wd hw 10 rfl) ?_
  refine go_alen 1 83 rfl d3_82 rfl rfl ?_
  show Go B3_26 Z a0 h0 _ 0 0 [ob a7 "com/example/offboard/offboard/fix/Throttle" [("com/example/offboard/offboard/fix/Throttle", "passed", "[J", (.ref a8)), ("com/example/offboard/offboard/fix/Throttle", "count", "I", (.int (3 : Int32))), ("com/example/offboard/offboard/fix/Throttle", "next", "I", (.int (2 : Int32)))], ar a8 .long [(.long q0), (.long q1), (.long q2), (.long (0 : Int64))]] 83 #[.val (.ref a7), .val (.long q2), .second, .val (.long q2), .second] [(.int (4 : Int32)), (.int (3 : Int32)), (.ref a7)]
  refine go_irem 84 rfl d3_83 rfl (by decide) ?_
  show Go B3_26 Z a0 h0 _ 0 0 [ob a7 "com/example/offboard/offboard/fix/Throttle" [("com/example/offboard/offboard/fix/Throttle", "passed", "[J", (.ref a8)), ("com/example/offboard/offboard/fix/Throttle", "count", "I", (.int (3 : Int32))), ("com/example/offboard/offboard/fix/Throttle", "next", "I", (.int (2 : Int32)))], ar a8 .long [(.long q0), (.long q1), (.long q2), (.long (0 : Int64))]] 84 #[.val (.ref a7), .val (.long q2), .second, .val (.long q2), .second] [(.int (3 : Int32)), (.ref a7)]
  refine go_put 0 2 87 rfl d3_84 rfl rfl rfl (wd hw 19 rfl) (Or.inl (wd hw 20 rfl)) (wd hw 1 rfl) (ty := .int) (by decide) rfl rfl ?_
  show Go B3_26 Z a0 h0 _ 0 0 [ob a7 "com/example/offboard/offboard/fix/Throttle" [("com/example/offboard/offboard/fix/Throttle", "passed", "[J", (.ref a8)), ("com/example/offboard/offboard/fix/Throttle", "count", "I", (.int (3 : Int32))), ("com/example/offboard/offboard/fix/Throttle", "next", "I", (.int (3 : Int32)))], ar a8 .long [(.long q0), (.long q1), (.long q2), (.long (0 : Int64))]] 87 #[.val (.ref a7), .val (.long q2), .second, .val (.long q2), .second] []
  refine go_lloadN 88 rfl d3_87 rfl ?_
  exact go_lreturn d3_88 rfl rfl (by decide) (by decide) ⟨rfl, rfl⟩
def B3_27 : Bdy := (⟨"com/example/offboard/offboard/fix/Throttle", "pass", "(J)J"⟩, prog_83_method_2_code, 5, (some .long), ({ frames := 0, cells := 0, slots := 0, locals := 0 } : Room))
set_option maxRecDepth 65536 in
set_option maxHeartbeats 4000000 in
theorem mt27 (Z : State) (a0 : Array Value) (hw : ∀ d ∈ tables_1, d.before a0 Z = true) (h0 : Heap) (SW : Sta Z h0 "com/example/offboard/offboard/fix/Throttle" "WINDOW_NANOS" "J" (.long 1000000000)) (a7 : Addr) (a8 : Addr) (q0 : Int64) (q1 : Int64) (q2 : Int64) (q3 : Int64) :
    Met B3_27 Z a0 h0 #[(.ref a7), (.long q3)] [ob a7 "com/example/offboard/offboard/fix/Throttle" [("com/example/offboard/offboard/fix/Throttle", "passed", "[J", (.ref a8)), ("com/example/offboard/offboard/fix/Throttle", "count", "I", (.int (3 : Int32))), ("com/example/offboard/offboard/fix/Throttle", "next", "I", (.int (3 : Int32)))], ar a8 .long [(.long q0), (.long q1), (.long q2), (.long (0 : Int64))]] (Ret (some (.long q3)) [ob a7 "com/example/offboard/offboard/fix/Throttle" [("com/example/offboard/offboard/fix/Throttle", "passed", "[J", (.ref a8)), ("com/example/offboard/offboard/fix/Throttle", "count", "I", (.int (4 : Int32))), ("com/example/offboard/offboard/fix/Throttle", "next", "I", (.int (0 : Int32)))], ar a8 .long [(.long q0), (.long q1), (.long q2), (.long q3)]]) := by
  refine Met.of pn3 (ls := #[.val (.ref a7), .val (.long q3), .second, .unset, .unset]) (fun m => by first | (simp [entryFrame, mkF, argsToLocals, Value.category, B3_27]; done) | rfl) ?_
  show Go B3_27 Z a0 h0 _ 0 0 [ob a7 "com/example/offboard/offboard/fix/Throttle" [("com/example/offboard/offboard/fix/Throttle", "passed", "[J", (.ref a8)), ("com/example/offboard/offboard/fix/Throttle", "count", "I", (.int (3 : Int32))), ("com/example/offboard/offboard/fix/Throttle", "next", "I", (.int (3 : Int32)))], ar a8 .long [(.long q0), (.long q1), (.long q2), (.long (0 : Int64))]] 0 #[.val (.ref a7), .val (.long q3), .second, .unset, .unset] []
  refine go_lloadN 1 rfl d3_0 rfl ?_
  refine go_lstoreN #[.val (.ref a7), .val (.long q3), .second, .val (.long q3), .second] 2 rfl d3_1 rfl rfl ?_
  refine go_aloadN 3 rfl d3_2 rfl rfl ?_
  refine go_get 0 1 6 rfl d3_3 rfl rfl rfl (wd hw 17 rfl) ?_
  refine go_aloadN 7 rfl d3_6 rfl rfl ?_
  refine go_get 0 0 10 rfl d3_7 rfl rfl rfl (wd hw 10 rfl) ?_
  refine go_alen 1 11 rfl d3_10 rfl rfl ?_
  show Go B3_27 Z a0 h0 _ 0 0 [ob a7 "com/example/offboard/offboard/fix/Throttle" [("com/example/offboard/offboard/fix/Throttle", "passed", "[J", (.ref a8)), ("com/example/offboard/offboard/fix/Throttle", "count", "I", (.int (3 : Int32))), ("com/example/offboard/offboard/fix/Throttle", "next", "I", (.int (3 : Int32)))], ar a8 .long [(.long q0), (.long q1), (.long q2), (.long (0 : Int64))]] 11 #[.val (.ref a7), .val (.long q3), .second, .val (.long q3), .second] [(.int (4 : Int32)), (.int (3 : Int32))]
  refine go_icmp 27 14 rfl (by decide) rfl d3_11 rfl (fun (hc11 : (4 : Int) ≤ (3 : Int)) => absurd hc11 (by decide)) (fun (hc11 : ¬ ((4 : Int) ≤ (3 : Int))) => ?_)
  refine go_aloadN 15 rfl d3_14 rfl rfl ?_
  refine go_dup 16 rfl d3_15 rfl rfl ?_
  refine go_get 0 1 19 rfl d3_16 rfl rfl rfl (wd hw 17 rfl) ?_
  refine go_iconst (1 : Int32) 20 rfl d3_19 rfl ?_
  refine go_iadd 21 rfl d3_20 rfl ?_
  show Go B3_27 Z a0 h0 _ 0 0 [ob a7 "com/example/offboard/offboard/fix/Throttle" [("com/example/offboard/offboard/fix/Throttle", "passed", "[J", (.ref a8)), ("com/example/offboard/offboard/fix/Throttle", "count", "I", (.int (3 : Int32))), ("com/example/offboard/offboard/fix/Throttle", "next", "I", (.int (3 : Int32)))], ar a8 .long [(.long q0), (.long q1), (.long q2), (.long (0 : Int64))]] 21 #[.val (.ref a7), .val (.long q3), .second, .val (.long q3), .second] [(.int (4 : Int32)), (.ref a7)]
  refine go_put 0 1 24 rfl d3_21 rfl rfl rfl (wd hw 17 rfl) (Or.inl (wd hw 18 rfl)) (wd hw 1 rfl) (ty := .int) (by decide) rfl rfl ?_
  show Go B3_27 Z a0 h0 _ 0 0 [ob a7 "com/example/offboard/offboard/fix/Throttle" [("com/example/offboard/offboard/fix/Throttle", "passed", "[J", (.ref a8)), ("com/example/offboard/offboard/fix/Throttle", "count", "I", (.int (4 : Int32))), ("com/example/offboard/offboard/fix/Throttle", "next", "I", (.int (3 : Int32)))], ar a8 .long [(.long q0), (.long q1), (.long q2), (.long (0 : Int64))]] 24 #[.val (.ref a7), .val (.long q3), .second, .val (.long q3), .second] []
  refine go_goto 61 (by decide) rfl d3_24 ?_
  refine go_aloadN 62 rfl d3_61 rfl rfl ?_
  refine go_get 0 0 65 rfl d3_62 rfl rfl rfl (wd hw 10 rfl) ?_
  refine go_aloadN 66 rfl d3_65 rfl rfl ?_
  refine go_get 0 2 69 rfl d3_66 rfl rfl rfl (wd hw 19 rfl) ?_
  refine go_lloadN 70 rfl d3_69 rfl ?_
  refine go_lastore 1 71 rfl d3_70 rfl rfl (by decide) (Nat.le_of_ble_eq_true rfl) ?_
  show Go B3_27 Z a0 h0 _ 0 0 [ob a7 "com/example/offboard/offboard/fix/Throttle" [("com/example/offboard/offboard/fix/Throttle", "passed", "[J", (.ref a8)), ("com/example/offboard/offboard/fix/Throttle", "count", "I", (.int (4 : Int32))), ("com/example/offboard/offboard/fix/Throttle", "next", "I", (.int (3 : Int32)))], ar a8 .long [(.long q0), (.long q1), (.long q2), (.long q3)]] 71 #[.val (.ref a7), .val (.long q3), .second, .val (.long q3), .second] []
  refine go_aloadN 72 rfl d3_71 rfl rfl ?_
  refine go_aloadN 73 rfl d3_72 rfl rfl ?_
  refine go_get 0 2 76 rfl d3_73 rfl rfl rfl (wd hw 19 rfl) ?_
  refine go_iconst (1 : Int32) 77 rfl d3_76 rfl ?_
  refine go_iadd 78 rfl d3_77 rfl ?_
  show Go B3_27 Z a0 h0 _ 0 0 [ob a7 "com/example/offboard/offboard/fix/Throttle" [("com/example/offboard/offboard/fix/Throttle", "passed", "[J", (.ref a8)), ("com/example/offboard/offboard/fix/Throttle", "count", "I", (.int (4 : Int32))), ("com/example/offboard/offboard/fix/Throttle", "next", "I", (.int (3 : Int32)))], ar a8 .long [(.long q0), (.long q1), (.long q2), (.long q3)]] 78 #[.val (.ref a7), .val (.long q3), .second, .val (.long q3), .second] [(.int (4 : Int32)), (.ref a7)]
  refine go_aloadN 79 rfl d3_78 rfl rfl ?_
  refine go_get 0 0 82 rfl d3_79 rfl rfl rfl (wd hw 10 rfl) ?_
  refine go_alen 1 83 rfl d3_82 rfl rfl ?_
  show Go B3_27 Z a0 h0 _ 0 0 [ob a7 "com/example/offboard/offboard/fix/Throttle" [("com/example/offboard/offboard/fix/Throttle", "passed", "[J", (.ref a8)), ("com/example/offboard/offboard/fix/Throttle", "count", "I", (.int (4 : Int32))), ("com/example/offboard/offboard/fix/Throttle", "next", "I", (.int (3 : Int32)))], ar a8 .long [(.long q0), (.long q1), (.long q2), (.long q3)]] 83 #[.val (.ref a7), .val (.long q3), .second, .val (.long q3), .second] [(.int (4 : Int32)), (.int (4 : Int32)), (.ref a7)]
  refine go_irem 84 rfl d3_83 rfl (by decide) ?_
  show Go B3_27 Z a0 h0 _ 0 0 [ob a7 "com/example/offboard/offboard/fix/Throttle" [("com/example/offboard/offboard/fix/Throttle", "passed", "[J", (.ref a8)), ("com/example/offboard/offboard/fix/Throttle", "count", "I", (.int (4 : Int32))), ("com/example/offboard/offboard/fix/Throttle", "next", "I", (.int (3 : Int32)))], ar a8 .long [(.long q0), (.long q1), (.long q2), (.long q3)]] 84 #[.val (.ref a7), .val (.long q3), .second, .val (.long q3), .second] [(.int (0 : Int32)), (.ref a7)]
  refine go_put 0 2 87 rfl d3_84 rfl rfl rfl (wd hw 19 rfl) (Or.inl (wd hw 20 rfl)) (wd hw 1 rfl) (ty := .int) (by decide) rfl rfl ?_
  show Go B3_27 Z a0 h0 _ 0 0 [ob a7 "com/example/offboard/offboard/fix/Throttle" [("com/example/offboard/offboard/fix/Throttle", "passed", "[J", (.ref a8)), ("com/example/offboard/offboard/fix/Throttle", "count", "I", (.int (4 : Int32))), ("com/example/offboard/offboard/fix/Throttle", "next", "I", (.int (0 : Int32)))], ar a8 .long [(.long q0), (.long q1), (.long q2), (.long q3)]] 87 #[.val (.ref a7), .val (.long q3), .second, .val (.long q3), .second] []
  refine go_lloadN 88 rfl d3_87 rfl ?_
  exact go_lreturn d3_88 rfl rfl (by decide) (by decide) ⟨rfl, rfl⟩
theorem pn0 : plainFor (⟨"com/example/offboard/offboard/fix/ThrottlePassPinLaw", "law", "(JIIII)Z"⟩ : MethodName) = true := by first | (apply plainFor_of_name; simp [plainName, overriddenIn]; done) | decide +kernel
def B0 : Bdy := (x, code, maxLocals, ret, room_1)
set_option maxRecDepth 65536 in
set_option maxHeartbeats 4000000 in
theorem law_met (Z : State) (a0 : Array Value) (hw : ∀ d ∈ tables_1, d.before a0 Z = true) (h0 : Heap) (q0 : Int64) (p1 p2 p3 p4 : Int32) (SW : Sta Z h0 "com/example/offboard/offboard/fix/Throttle" "WINDOW_NANOS" "J" (.long 1000000000)) :
    Met B0 Z a0 h0 #[(.long q0), (.int p1), (.int p2), (.int p3), (.int p4)] [] (fun v _ => v = some (.int 1)) := by
  refine Met.of pn0 (ls := #[.val (.long q0), .second, .val (.int p1), .val (.int p2), .val (.int p3), .val (.int p4), .unset, .unset, .unset, .unset, .unset, .unset, .unset, .unset, .unset, .unset, .unset, .unset, .unset, .unset, .unset, .unset, .unset, .unset, .unset, .unset, .unset, .unset, .unset, .unset]) (fun m => by first | (simp [entryFrame, mkF, argsToLocals, Value.category, B0, maxLocals]; done) | rfl) ?_
  show Go B0 Z a0 h0 _ 0 0 [] 0 #[.val (.long q0), .second, .val (.int p1), .val (.int p2), .val (.int p3), .val (.int p4), .unset, .unset, .unset, .unset, .unset, .unset, .unset, .unset, .unset, .unset, .unset, .unset, .unset, .unset, .unset, .unset, .unset, .unset, .unset, .unset, .unset, .unset, .unset, .unset] []
  refine go_iconst (1 : Int32) 1 rfl at_0 rfl ?_
  refine go_iload 3 rfl at_1 rfl ?_
  refine go_iconst (3 : Int32) 4 rfl at_3 rfl ?_
  refine go_iand 5 rfl at_4 rfl ?_
  rcases and3 p4 with hb | hb | hb | hb
  · rw [hb]
    refine go_iadd 6 rfl at_5 rfl ?_
    show Go B0 Z a0 h0 _ 0 0 [] 6 #[.val (.long q0), .second, .val (.int p1), .val (.int p2), .val (.int p3), .val (.int p4), .unset, .unset, .unset, .unset, .unset, .unset, .unset, .unset, .unset, .unset, .unset, .unset, .unset, .unset, .unset, .unset, .unset, .unset, .unset, .unset, .unset, .unset, .unset, .unset] [(.int (1 : Int32))]
    refine go_istore #[.val (.long q0), .second, .val (.int p1), .val (.int p2), .val (.int p3), .val (.int p4), .val (.int (1 : Int32)), .unset, .unset, .unset, .unset, .unset, .unset, .unset, .unset, .unset, .unset, .unset, .unset, .unset, .unset, .unset, .unset, .unset, .unset, .unset, .unset, .unset, .unset, .unset] 8 rfl at_6 rfl rfl ?_
    refine go_lloadN 9 rfl at_8 rfl ?_
    refine go_iloadN 10 rfl at_9 rfl ?_
    refine go_i2l 11 rfl at_10 rfl ?_
    refine go_ladd 12 rfl at_11 rfl ?_
    generalize hq1 : (q0 + (p1.toInt64)) = q1
    refine go_lstore #[.val (.long q0), .second, .val (.int p1), .val (.int p2), .val (.int p3), .val (.int p4), .val (.int (1 : Int32)), .val (.long q1), .second, .unset, .unset, .unset, .unset, .unset, .unset, .unset, .unset, .unset, .unset, .unset, .unset, .unset, .unset, .unset, .unset, .unset, .unset, .unset, .unset, .unset] 14 rfl at_12 rfl rfl ?_
    refine go_lload 16 rfl at_14 rfl ?_
    refine go_iloadN 17 rfl at_16 rfl ?_
    refine go_i2l 18 rfl at_17 rfl ?_
    refine go_ladd 19 rfl at_18 rfl ?_
    generalize hq2 : (q1 + (p2.toInt64)) = q2
    refine go_lstore #[.val (.long q0), .second, .val (.int p1), .val (.int p2), .val (.int p3), .val (.int p4), .val (.int (1 : Int32)), .val (.long q1), .second, .val (.long q2), .second, .unset, .unset, .unset, .unset, .unset, .unset, .unset, .unset, .unset, .unset, .unset, .unset, .unset, .unset, .unset, .unset, .unset, .unset, .unset] 21 rfl at_19 rfl rfl ?_
    refine go_lload 23 rfl at_21 rfl ?_
    refine go_iload 25 rfl at_23 rfl ?_
    refine go_i2l 26 rfl at_25 rfl ?_
    refine go_ladd 27 rfl at_26 rfl ?_
    generalize hq3 : (q2 + (p3.toInt64)) = q3
    refine go_lstore #[.val (.long q0), .second, .val (.int p1), .val (.int p2), .val (.int p3), .val (.int p4), .val (.int (1 : Int32)), .val (.long q1), .second, .val (.long q2), .second, .val (.long q3), .second, .unset, .unset, .unset, .unset, .unset, .unset, .unset, .unset, .unset, .unset, .unset, .unset, .unset, .unset, .unset, .unset, .unset] 29 rfl at_27 rfl rfl ?_
    refine go_new 32 rfl at_29 (wd hw 0 rfl) (wd hw 1 rfl) (wd hw 2 rfl) (by decide) (by decide) [("com/example/offboard/offboard/fix/Throttle", "passed", "[J", .null), ("com/example/offboard/offboard/fix/Throttle", "count", "I", (.int (0 : Int32))), ("com/example/offboard/offboard/fix/Throttle", "next", "I", (.int (0 : Int32)))] ⟨⟨Or.inr (wd hw 11 rfl), _, rfl, rfl⟩, ⟨⟨Or.inl (wd hw 18 rfl), _, rfl, rfl⟩, ⟨⟨Or.inl (wd hw 20 rfl), _, rfl, rfl⟩, trivial⟩⟩⟩ (by decide) (fun a1 => ?_)
    show Go B0 Z a0 h0 _ 1 3 [ob a1 "com/example/offboard/offboard/fix/Throttle" [("com/example/offboard/offboard/fix/Throttle", "passed", "[J", .null), ("com/example/offboard/offboard/fix/Throttle", "count", "I", (.int (0 : Int32))), ("com/example/offboard/offboard/fix/Throttle", "next", "I", (.int (0 : Int32)))]] 32 #[.val (.long q0), .second, .val (.int p1), .val (.int p2), .val (.int p3), .val (.int p4), .val (.int (1 : Int32)), .val (.long q1), .second, .val (.long q2), .second, .val (.long q3), .second, .unset, .unset, .unset, .unset, .unset, .unset, .unset, .unset, .unset, .unset, .unset, .unset, .unset, .unset, .unset, .unset, .unset] [(.ref a1)]
    refine go_dup 33 rfl at_32 rfl rfl ?_
    refine go_iload 35 rfl at_33 rfl ?_
    refine go_callI 38 rfl at_35 rfl (wd hw 3 rfl) (wd hw 4 rfl) (wd hw 2 rfl) (wd hw 5 rfl) (by decide) (mt2 Z a0 hw h0 SW a1) (argsL := [(.int (1 : Int32))]) (rest := [(.ref a1)]) rfl (ret := none) (ps := [.int]) (by decide +kernel) rfl rfl 1 rfl (by decide) (by decide) (by decide) (by decide) ?_
    rintro _ _ ⟨a2, rfl, rfl⟩
    show Go B0 Z a0 h0 _ 2 4 [ob a1 "com/example/offboard/offboard/fix/Throttle" [("com/example/offboard/offboard/fix/Throttle", "passed", "[J", (.ref a2)), ("com/example/offboard/offboard/fix/Throttle", "count", "I", (.int (0 : Int32))), ("com/example/offboard/offboard/fix/Throttle", "next", "I", (.int (0 : Int32)))], ar a2 .long [(.long (0 : Int64))]] 38 #[.val (.long q0), .second, .val (.int p1), .val (.int p2), .val (.int p3), .val (.int p4), .val (.int (1 : Int32)), .val (.long q1), .second, .val (.long q2), .second, .val (.long q3), .second, .unset, .unset, .unset, .unset, .unset, .unset, .unset, .unset, .unset, .unset, .unset, .unset, .unset, .unset, .unset, .unset, .unset] [(.ref a1)]
    refine go_astore #[.val (.long q0), .second, .val (.int p1), .val (.int p2), .val (.int p3), .val (.int p4), .val (.int (1 : Int32)), .val (.long q1), .second, .val (.long q2), .second, .val (.long q3), .second, .val (.ref a1), .unset, .unset, .unset, .unset, .unset, .unset, .unset, .unset, .unset, .unset, .unset, .unset, .unset, .unset, .unset, .unset] 40 rfl at_38 rfl rfl rfl ?_
    refine go_aload 42 rfl at_40 rfl rfl ?_
    refine go_lloadN 43 rfl at_42 rfl ?_
    refine go_callV 46 rfl at_43 (wd hw 12 rfl) (wd hw 13 rfl) (wd hw 15 rfl) (wd hw 14 rfl) (wd hw 2 rfl) (wd hw 16 rfl) (by decide) (Mo.exa (i := 0) rfl) (mt3 Z a0 hw h0 SW a1 a2 q0) (argsL := [(.long q0)]) (rest := []) rfl (ps := [.long]) (by decide +kernel) rfl rfl 0 rfl (by decide) (by decide) (by decide) (by decide) ?_
    rintro _ _ ⟨rfl, rfl⟩
    show Go B0 Z a0 h0 _ 2 4 [ob a1 "com/example/offboard/offboard/fix/Throttle" [("com/example/offboard/offboard/fix/Throttle", "passed", "[J", (.ref a2)), ("com/example/offboard/offboard/fix/Throttle", "count", "I", (.int (1 : Int32))), ("com/example/offboard/offboard/fix/Throttle", "next", "I", (.int (0 : Int32)))], ar a2 .long [(.long q0)]] 46 #[.val (.long q0), .second, .val (.int p1), .val (.int p2), .val (.int p3), .val (.int p4), .val (.int (1 : Int32)), .val (.long q1), .second, .val (.long q2), .second, .val (.long q3), .second, .val (.ref a1), .unset, .unset, .unset, .unset, .unset, .unset, .unset, .unset, .unset, .unset, .unset, .unset, .unset, .unset, .unset, .unset] [(.long q0)]
    refine go_lstore #[.val (.long q0), .second, .val (.int p1), .val (.int p2), .val (.int p3), .val (.int p4), .val (.int (1 : Int32)), .val (.long q1), .second, .val (.long q2), .second, .val (.long q3), .second, .val (.ref a1), .val (.long q0), .second, .unset, .unset, .unset, .unset, .unset, .unset, .unset, .unset, .unset, .unset, .unset, .unset, .unset, .unset] 48 rfl at_46 rfl rfl ?_
    refine go_aload 50 rfl at_48 rfl rfl ?_
    refine go_lload 52 rfl at_50 rfl ?_
    refine go_callV 55 rfl at_52 (wd hw 12 rfl) (wd hw 13 rfl) (wd hw 15 rfl) (wd hw 14 rfl) (wd hw 2 rfl) (wd hw 16 rfl) (by decide) (Mo.exa (i := 0) rfl) (mt4 Z a0 hw h0 SW a1 a2 q0 q1) (argsL := [(.long q1)]) (rest := []) rfl (ps := [.long]) (by decide +kernel) rfl rfl 0 rfl (by decide) (by decide) (by decide) (by decide) ?_
    rintro _ _ ⟨rfl, rfl⟩
    show Go B0 Z a0 h0 _ 2 4 [ob a1 "com/example/offboard/offboard/fix/Throttle" [("com/example/offboard/offboard/fix/Throttle", "passed", "[J", (.ref a2)), ("com/example/offboard/offboard/fix/Throttle", "count", "I", (.int (1 : Int32))), ("com/example/offboard/offboard/fix/Throttle", "next", "I", (.int (0 : Int32)))], ar a2 .long [(.long (lt1 q0 q1))]] 55 #[.val (.long q0), .second, .val (.int p1), .val (.int p2), .val (.int p3), .val (.int p4), .val (.int (1 : Int32)), .val (.long q1), .second, .val (.long q2), .second, .val (.long q3), .second, .val (.ref a1), .val (.long q0), .second, .unset, .unset, .unset, .unset, .unset, .unset, .unset, .unset, .unset, .unset, .unset, .unset, .unset, .unset] [(.long (lt1 q0 q1))]
    refine go_lstore #[.val (.long q0), .second, .val (.int p1), .val (.int p2), .val (.int p3), .val (.int p4), .val (.int (1 : Int32)), .val (.long q1), .second, .val (.long q2), .second, .val (.long q3), .second, .val (.ref a1), .val (.long q0), .second, .val (.long (lt1 q0 q1)), .second, .unset, .unset, .unset, .unset, .unset, .unset, .unset, .unset, .unset, .unset, .unset, .unset] 57 rfl at_55 rfl rfl ?_
    refine go_aload 59 rfl at_57 rfl rfl ?_
    refine go_lload 61 rfl at_59 rfl ?_
    refine go_callV 64 rfl at_61 (wd hw 12 rfl) (wd hw 13 rfl) (wd hw 15 rfl) (wd hw 14 rfl) (wd hw 2 rfl) (wd hw 16 rfl) (by decide) (Mo.exa (i := 0) rfl) (mt6 Z a0 hw h0 SW a1 a2 q0 q1 q2) (argsL := [(.long q2)]) (rest := []) rfl (ps := [.long]) (by decide +kernel) rfl rfl 0 rfl (by decide) (by decide) (by decide) (by decide) ?_
    rintro _ _ ⟨rfl, rfl⟩
    show Go B0 Z a0 h0 _ 2 4 [ob a1 "com/example/offboard/offboard/fix/Throttle" [("com/example/offboard/offboard/fix/Throttle", "passed", "[J", (.ref a2)), ("com/example/offboard/offboard/fix/Throttle", "count", "I", (.int (1 : Int32))), ("com/example/offboard/offboard/fix/Throttle", "next", "I", (.int (0 : Int32)))], ar a2 .long [(.long (lt1 (lt1 q0 q1) q2))]] 64 #[.val (.long q0), .second, .val (.int p1), .val (.int p2), .val (.int p3), .val (.int p4), .val (.int (1 : Int32)), .val (.long q1), .second, .val (.long q2), .second, .val (.long q3), .second, .val (.ref a1), .val (.long q0), .second, .val (.long (lt1 q0 q1)), .second, .unset, .unset, .unset, .unset, .unset, .unset, .unset, .unset, .unset, .unset, .unset, .unset] [(.long (lt1 (lt1 q0 q1) q2))]
    refine go_lstore #[.val (.long q0), .second, .val (.int p1), .val (.int p2), .val (.int p3), .val (.int p4), .val (.int (1 : Int32)), .val (.long q1), .second, .val (.long q2), .second, .val (.long q3), .second, .val (.ref a1), .val (.long q0), .second, .val (.long (lt1 q0 q1)), .second, .val (.long (lt1 (lt1 q0 q1) q2)), .second, .unset, .unset, .unset, .unset, .unset, .unset, .unset, .unset, .unset, .unset] 66 rfl at_64 rfl rfl ?_
    refine go_aload 68 rfl at_66 rfl rfl ?_
    refine go_lload 70 rfl at_68 rfl ?_
    refine go_callV 73 rfl at_70 (wd hw 12 rfl) (wd hw 13 rfl) (wd hw 15 rfl) (wd hw 14 rfl) (wd hw 2 rfl) (wd hw 16 rfl) (by decide) (Mo.exa (i := 0) rfl) (mt8 Z a0 hw h0 SW a1 a2 q0 q1 q2 q3) (argsL := [(.long q3)]) (rest := []) rfl (ps := [.long]) (by decide +kernel) rfl rfl 0 rfl (by decide) (by decide) (by decide) (by decide) ?_
    rintro _ _ ⟨rfl, rfl⟩
    show Go B0 Z a0 h0 _ 2 4 [ob a1 "com/example/offboard/offboard/fix/Throttle" [("com/example/offboard/offboard/fix/Throttle", "passed", "[J", (.ref a2)), ("com/example/offboard/offboard/fix/Throttle", "count", "I", (.int (1 : Int32))), ("com/example/offboard/offboard/fix/Throttle", "next", "I", (.int (0 : Int32)))], ar a2 .long [(.long (lt1 (lt1 (lt1 q0 q1) q2) q3))]] 73 #[.val (.long q0), .second, .val (.int p1), .val (.int p2), .val (.int p3), .val (.int p4), .val (.int (1 : Int32)), .val (.long q1), .second, .val (.long q2), .second, .val (.long q3), .second, .val (.ref a1), .val (.long q0), .second, .val (.long (lt1 q0 q1)), .second, .val (.long (lt1 (lt1 q0 q1) q2)), .second, .unset, .unset, .unset, .unset, .unset, .unset, .unset, .unset, .unset, .unset] [(.long (lt1 (lt1 (lt1 q0 q1) q2) q3))]
    refine go_lstore #[.val (.long q0), .second, .val (.int p1), .val (.int p2), .val (.int p3), .val (.int p4), .val (.int (1 : Int32)), .val (.long q1), .second, .val (.long q2), .second, .val (.long q3), .second, .val (.ref a1), .val (.long q0), .second, .val (.long (lt1 q0 q1)), .second, .val (.long (lt1 (lt1 q0 q1) q2)), .second, .val (.long (lt1 (lt1 (lt1 q0 q1) q2) q3)), .second, .unset, .unset, .unset, .unset, .unset, .unset, .unset, .unset] 75 rfl at_73 rfl rfl ?_
    refine go_lloadN 76 rfl at_75 rfl ?_
    refine go_lstore #[.val (.long q0), .second, .val (.int p1), .val (.int p2), .val (.int p3), .val (.int p4), .val (.int (1 : Int32)), .val (.long q1), .second, .val (.long q2), .second, .val (.long q3), .second, .val (.ref a1), .val (.long q0), .second, .val (.long (lt1 q0 q1)), .second, .val (.long (lt1 (lt1 q0 q1) q2)), .second, .val (.long (lt1 (lt1 (lt1 q0 q1) q2) q3)), .second, .val (.long q0), .second, .unset, .unset, .unset, .unset, .unset, .unset] 78 rfl at_76 rfl rfl ?_
    refine go_iload 80 rfl at_78 rfl ?_
    refine go_iconst (1 : Int32) 81 rfl at_80 rfl ?_
    refine go_icmp 89 84 rfl (by decide) rfl at_81 rfl (fun (hc81 : (1 : Int) ≤ (1 : Int)) => ?_) (fun (hc81 : ¬ ((1 : Int) ≤ (1 : Int))) => absurd hc81 (by decide))
    refine go_lload 91 rfl at_89 rfl ?_
    refine go_lload 93 rfl at_91 rfl ?_
    refine go_callS 96 rfl at_93 (wd hw 23 rfl) (wd hw 24 rfl) (wd hw 25 rfl) (wd hw 26 rfl) (by decide) (m_later Z a0 hw h0 [ob a1 "com/example/offboard/offboard/fix/Throttle" [("com/example/offboard/offboard/fix/Throttle", "passed", "[J", (.ref a2)), ("com/example/offboard/offboard/fix/Throttle", "count", "I", (.int (1 : Int32))), ("com/example/offboard/offboard/fix/Throttle", "next", "I", (.int (0 : Int32)))], ar a2 .long [(.long (lt1 (lt1 (lt1 q0 q1) q2) q3))]] q0 q1) (argsL := [(.long q0), (.long q1)]) (rest := []) rfl (ps := [.long, .long]) (by decide +kernel) rfl rfl 0 rfl (by decide) (by decide) (by decide) (by decide) ?_
    rintro _ _ ⟨rfl, rfl⟩
    show Go B0 Z a0 h0 _ 2 4 [ob a1 "com/example/offboard/offboard/fix/Throttle" [("com/example/offboard/offboard/fix/Throttle", "passed", "[J", (.ref a2)), ("com/example/offboard/offboard/fix/Throttle", "count", "I", (.int (1 : Int32))), ("com/example/offboard/offboard/fix/Throttle", "next", "I", (.int (0 : Int32)))], ar a2 .long [(.long (lt1 (lt1 (lt1 q0 q1) q2) q3))]] 96 #[.val (.long q0), .second, .val (.int p1), .val (.int p2), .val (.int p3), .val (.int p4), .val (.int (1 : Int32)), .val (.long q1), .second, .val (.long q2), .second, .val (.long q3), .second, .val (.ref a1), .val (.long q0), .second, .val (.long (lt1 q0 q1)), .second, .val (.long (lt1 (lt1 q0 q1) q2)), .second, .val (.long (lt1 (lt1 (lt1 q0 q1) q2) q3)), .second, .val (.long q0), .second, .unset, .unset, .unset, .unset, .unset, .unset] [(.long (lt1 q0 q1))]
    refine go_lstore #[.val (.long q0), .second, .val (.int p1), .val (.int p2), .val (.int p3), .val (.int p4), .val (.int (1 : Int32)), .val (.long q1), .second, .val (.long q2), .second, .val (.long q3), .second, .val (.ref a1), .val (.long q0), .second, .val (.long (lt1 q0 q1)), .second, .val (.long (lt1 (lt1 q0 q1) q2)), .second, .val (.long (lt1 (lt1 (lt1 q0 q1) q2) q3)), .second, .val (.long q0), .second, .val (.long (lt1 q0 q1)), .second, .unset, .unset, .unset, .unset] 98 rfl at_96 rfl rfl ?_
    refine go_iload 100 rfl at_98 rfl ?_
    refine go_iconst (2 : Int32) 101 rfl at_100 rfl ?_
    refine go_icmp 109 104 rfl (by decide) rfl at_101 rfl (fun (hc101 : (1 : Int) ≤ (2 : Int)) => ?_) (fun (hc101 : ¬ ((1 : Int) ≤ (2 : Int))) => absurd hc101 (by decide))
    refine go_iload 111 rfl at_109 rfl ?_
    refine go_iconst (1 : Int32) 112 rfl at_111 rfl ?_
    refine go_icmp 120 115 rfl (by decide) rfl at_112 rfl (fun (hc112 : (1 : Int) ≠ (1 : Int)) => absurd hc112 (by decide)) (fun (hc112 : ¬ ((1 : Int) ≠ (1 : Int))) => ?_)
    refine go_lload 117 rfl at_115 rfl ?_
    refine go_goto 122 (by decide) rfl at_117 ?_
    refine go_lload 124 rfl at_122 rfl ?_
    refine go_callS 127 rfl at_124 (wd hw 23 rfl) (wd hw 24 rfl) (wd hw 25 rfl) (wd hw 26 rfl) (by decide) (m_later Z a0 hw h0 [ob a1 "com/example/offboard/offboard/fix/Throttle" [("com/example/offboard/offboard/fix/Throttle", "passed", "[J", (.ref a2)), ("com/example/offboard/offboard/fix/Throttle", "count", "I", (.int (1 : Int32))), ("com/example/offboard/offboard/fix/Throttle", "next", "I", (.int (0 : Int32)))], ar a2 .long [(.long (lt1 (lt1 (lt1 q0 q1) q2) q3))]] (lt1 q0 q1) q2) (argsL := [(.long (lt1 q0 q1)), (.long q2)]) (rest := []) rfl (ps := [.long, .long]) (by decide +kernel) rfl rfl 0 rfl (by decide) (by decide) (by decide) (by decide) ?_
    rintro _ _ ⟨rfl, rfl⟩
    show Go B0 Z a0 h0 _ 2 4 [ob a1 "com/example/offboard/offboard/fix/Throttle" [("com/example/offboard/offboard/fix/Throttle", "passed", "[J", (.ref a2)), ("com/example/offboard/offboard/fix/Throttle", "count", "I", (.int (1 : Int32))), ("com/example/offboard/offboard/fix/Throttle", "next", "I", (.int (0 : Int32)))], ar a2 .long [(.long (lt1 (lt1 (lt1 q0 q1) q2) q3))]] 127 #[.val (.long q0), .second, .val (.int p1), .val (.int p2), .val (.int p3), .val (.int p4), .val (.int (1 : Int32)), .val (.long q1), .second, .val (.long q2), .second, .val (.long q3), .second, .val (.ref a1), .val (.long q0), .second, .val (.long (lt1 q0 q1)), .second, .val (.long (lt1 (lt1 q0 q1) q2)), .second, .val (.long (lt1 (lt1 (lt1 q0 q1) q2) q3)), .second, .val (.long q0), .second, .val (.long (lt1 q0 q1)), .second, .unset, .unset, .unset, .unset] [(.long (lt1 (lt1 q0 q1) q2))]
    refine go_lstore #[.val (.long q0), .second, .val (.int p1), .val (.int p2), .val (.int p3), .val (.int p4), .val (.int (1 : Int32)), .val (.long q1), .second, .val (.long q2), .second, .val (.long q3), .second, .val (.ref a1), .val (.long q0), .second, .val (.long (lt1 q0 q1)), .second, .val (.long (lt1 (lt1 q0 q1) q2)), .second, .val (.long (lt1 (lt1 (lt1 q0 q1) q2) q3)), .second, .val (.long q0), .second, .val (.long (lt1 q0 q1)), .second, .val (.long (lt1 (lt1 q0 q1) q2)), .second, .unset, .unset] 129 rfl at_127 rfl rfl ?_
    refine go_iload 131 rfl at_129 rfl ?_
    refine go_iconst (3 : Int32) 132 rfl at_131 rfl ?_
    refine go_icmp 140 135 rfl (by decide) rfl at_132 rfl (fun (hc132 : (1 : Int) ≤ (3 : Int)) => ?_) (fun (hc132 : ¬ ((1 : Int) ≤ (3 : Int))) => absurd hc132 (by decide))
    refine go_iload 142 rfl at_140 rfl ?_
    refine go_iconst (1 : Int32) 143 rfl at_142 rfl ?_
    refine go_icmp 151 146 rfl (by decide) rfl at_143 rfl (fun (hc143 : (1 : Int) ≠ (1 : Int)) => absurd hc143 (by decide)) (fun (hc143 : ¬ ((1 : Int) ≠ (1 : Int))) => ?_)
    refine go_lload 148 rfl at_146 rfl ?_
    refine go_goto 164 (by decide) rfl at_148 ?_
    refine go_lload 166 rfl at_164 rfl ?_
    refine go_callS 169 rfl at_166 (wd hw 23 rfl) (wd hw 24 rfl) (wd hw 25 rfl) (wd hw 26 rfl) (by decide) (m_later Z a0 hw h0 [ob a1 "com/example/offboard/offboard/fix/Throttle" [("com/example/offboard/offboard/fix/Throttle", "passed", "[J", (.ref a2)), ("com/example/offboard/offboard/fix/Throttle", "count", "I", (.int (1 : Int32))), ("com/example/offboard/offboard/fix/Throttle", "next", "I", (.int (0 : Int32)))], ar a2 .long [(.long (lt1 (lt1 (lt1 q0 q1) q2) q3))]] (lt1 (lt1 q0 q1) q2) q3) (argsL := [(.long (lt1 (lt1 q0 q1) q2)), (.long q3)]) (rest := []) rfl (ps := [.long, .long]) (by decide +kernel) rfl rfl 0 rfl (by decide) (by decide) (by decide) (by decide) ?_
    rintro _ _ ⟨rfl, rfl⟩
    show Go B0 Z a0 h0 _ 2 4 [ob a1 "com/example/offboard/offboard/fix/Throttle" [("com/example/offboard/offboard/fix/Throttle", "passed", "[J", (.ref a2)), ("com/example/offboard/offboard/fix/Throttle", "count", "I", (.int (1 : Int32))), ("com/example/offboard/offboard/fix/Throttle", "next", "I", (.int (0 : Int32)))], ar a2 .long [(.long (lt1 (lt1 (lt1 q0 q1) q2) q3))]] 169 #[.val (.long q0), .second, .val (.int p1), .val (.int p2), .val (.int p3), .val (.int p4), .val (.int (1 : Int32)), .val (.long q1), .second, .val (.long q2), .second, .val (.long q3), .second, .val (.ref a1), .val (.long q0), .second, .val (.long (lt1 q0 q1)), .second, .val (.long (lt1 (lt1 q0 q1) q2)), .second, .val (.long (lt1 (lt1 (lt1 q0 q1) q2) q3)), .second, .val (.long q0), .second, .val (.long (lt1 q0 q1)), .second, .val (.long (lt1 (lt1 q0 q1) q2)), .second, .unset, .unset] [(.long (lt1 (lt1 (lt1 q0 q1) q2) q3))]
    refine go_lstore #[.val (.long q0), .second, .val (.int p1), .val (.int p2), .val (.int p3), .val (.int p4), .val (.int (1 : Int32)), .val (.long q1), .second, .val (.long q2), .second, .val (.long q3), .second, .val (.ref a1), .val (.long q0), .second, .val (.long (lt1 q0 q1)), .second, .val (.long (lt1 (lt1 q0 q1) q2)), .second, .val (.long (lt1 (lt1 (lt1 q0 q1) q2) q3)), .second, .val (.long q0), .second, .val (.long (lt1 q0 q1)), .second, .val (.long (lt1 (lt1 q0 q1) q2)), .second, .val (.long (lt1 (lt1 (lt1 q0 q1) q2) q3)), .second] 171 rfl at_169 rfl rfl ?_
    refine go_lload 173 rfl at_171 rfl ?_
    refine go_lload 175 rfl at_173 rfl ?_
    refine go_lcmp 176 rfl at_175 rfl ?_
    refine go_if 207 179 rfl (by decide) rfl at_176 rfl (fun (hc176 : (lcmpW q0 q0).toInt ≠ 0) => absurd hc176 (by exact fun q => q (lcmp_self _))) (fun (hc176 : ¬ ((lcmpW q0 q0).toInt ≠ 0)) => ?_)
    refine go_lload 181 rfl at_179 rfl ?_
    refine go_lload 183 rfl at_181 rfl ?_
    refine go_lcmp 184 rfl at_183 rfl ?_
    refine go_if 207 187 rfl (by decide) rfl at_184 rfl (fun (hc184 : (lcmpW (lt1 q0 q1) (lt1 q0 q1)).toInt ≠ 0) => absurd hc184 (by exact fun q => q (lcmp_self _))) (fun (hc184 : ¬ ((lcmpW (lt1 q0 q1) (lt1 q0 q1)).toInt ≠ 0)) => ?_)
    refine go_lload 189 rfl at_187 rfl ?_
    refine go_lload 191 rfl at_189 rfl ?_
    refine go_lcmp 192 rfl at_191 rfl ?_
    refine go_if 207 195 rfl (by decide) rfl at_192 rfl (fun (hc192 : (lcmpW (lt1 (lt1 q0 q1) q2) (lt1 (lt1 q0 q1) q2)).toInt ≠ 0) => absurd hc192 (by exact fun q => q (lcmp_self _))) (fun (hc192 : ¬ ((lcmpW (lt1 (lt1 q0 q1) q2) (lt1 (lt1 q0 q1) q2)).toInt ≠ 0)) => ?_)
    refine go_lload 197 rfl at_195 rfl ?_
    refine go_lload 199 rfl at_197 rfl ?_
    refine go_lcmp 200 rfl at_199 rfl ?_
    refine go_if 207 203 rfl (by decide) rfl at_200 rfl (fun (hc200 : (lcmpW (lt1 (lt1 (lt1 q0 q1) q2) q3) (lt1 (lt1 (lt1 q0 q1) q2) q3)).toInt ≠ 0) => absurd hc200 (by exact fun q => q (lcmp_self _))) (fun (hc200 : ¬ ((lcmpW (lt1 (lt1 (lt1 q0 q1) q2) q3) (lt1 (lt1 (lt1 q0 q1) q2) q3)).toInt ≠ 0)) => ?_)
    refine go_iconst (1 : Int32) 204 rfl at_203 rfl ?_
    refine go_goto 208 (by decide) rfl at_204 ?_
    exact go_ireturn at_208 rfl (Or.inr (Or.inl rfl)) rfl rfl (by decide) (by decide) rfl
  · rw [hb]
    refine go_iadd 6 rfl at_5 rfl ?_
    show Go B0 Z a0 h0 _ 0 0 [] 6 #[.val (.long q0), .second, .val (.int p1), .val (.int p2), .val (.int p3), .val (.int p4), .unset, .unset, .unset, .unset, .unset, .unset, .unset, .unset, .unset, .unset, .unset, .unset, .unset, .unset, .unset, .unset, .unset, .unset, .unset, .unset, .unset, .unset, .unset, .unset] [(.int (2 : Int32))]
    refine go_istore #[.val (.long q0), .second, .val (.int p1), .val (.int p2), .val (.int p3), .val (.int p4), .val (.int (2 : Int32)), .unset, .unset, .unset, .unset, .unset, .unset, .unset, .unset, .unset, .unset, .unset, .unset, .unset, .unset, .unset, .unset, .unset, .unset, .unset, .unset, .unset, .unset, .unset] 8 rfl at_6 rfl rfl ?_
    refine go_lloadN 9 rfl at_8 rfl ?_
    refine go_iloadN 10 rfl at_9 rfl ?_
    refine go_i2l 11 rfl at_10 rfl ?_
    refine go_ladd 12 rfl at_11 rfl ?_
    generalize hq1 : (q0 + (p1.toInt64)) = q1
    refine go_lstore #[.val (.long q0), .second, .val (.int p1), .val (.int p2), .val (.int p3), .val (.int p4), .val (.int (2 : Int32)), .val (.long q1), .second, .unset, .unset, .unset, .unset, .unset, .unset, .unset, .unset, .unset, .unset, .unset, .unset, .unset, .unset, .unset, .unset, .unset, .unset, .unset, .unset, .unset] 14 rfl at_12 rfl rfl ?_
    refine go_lload 16 rfl at_14 rfl ?_
    refine go_iloadN 17 rfl at_16 rfl ?_
    refine go_i2l 18 rfl at_17 rfl ?_
    refine go_ladd 19 rfl at_18 rfl ?_
    generalize hq2 : (q1 + (p2.toInt64)) = q2
    refine go_lstore #[.val (.long q0), .second, .val (.int p1), .val (.int p2), .val (.int p3), .val (.int p4), .val (.int (2 : Int32)), .val (.long q1), .second, .val (.long q2), .second, .unset, .unset, .unset, .unset, .unset, .unset, .unset, .unset, .unset, .unset, .unset, .unset, .unset, .unset, .unset, .unset, .unset, .unset, .unset] 21 rfl at_19 rfl rfl ?_
    refine go_lload 23 rfl at_21 rfl ?_
    refine go_iload 25 rfl at_23 rfl ?_
    refine go_i2l 26 rfl at_25 rfl ?_
    refine go_ladd 27 rfl at_26 rfl ?_
    generalize hq3 : (q2 + (p3.toInt64)) = q3
    refine go_lstore #[.val (.long q0), .second, .val (.int p1), .val (.int p2), .val (.int p3), .val (.int p4), .val (.int (2 : Int32)), .val (.long q1), .second, .val (.long q2), .second, .val (.long q3), .second, .unset, .unset, .unset, .unset, .unset, .unset, .unset, .unset, .unset, .unset, .unset, .unset, .unset, .unset, .unset, .unset, .unset] 29 rfl at_27 rfl rfl ?_
    refine go_new 32 rfl at_29 (wd hw 0 rfl) (wd hw 1 rfl) (wd hw 2 rfl) (by decide) (by decide) [("com/example/offboard/offboard/fix/Throttle", "passed", "[J", .null), ("com/example/offboard/offboard/fix/Throttle", "count", "I", (.int (0 : Int32))), ("com/example/offboard/offboard/fix/Throttle", "next", "I", (.int (0 : Int32)))] ⟨⟨Or.inr (wd hw 11 rfl), _, rfl, rfl⟩, ⟨⟨Or.inl (wd hw 18 rfl), _, rfl, rfl⟩, ⟨⟨Or.inl (wd hw 20 rfl), _, rfl, rfl⟩, trivial⟩⟩⟩ (by decide) (fun a3 => ?_)
    show Go B0 Z a0 h0 _ 1 3 [ob a3 "com/example/offboard/offboard/fix/Throttle" [("com/example/offboard/offboard/fix/Throttle", "passed", "[J", .null), ("com/example/offboard/offboard/fix/Throttle", "count", "I", (.int (0 : Int32))), ("com/example/offboard/offboard/fix/Throttle", "next", "I", (.int (0 : Int32)))]] 32 #[.val (.long q0), .second, .val (.int p1), .val (.int p2), .val (.int p3), .val (.int p4), .val (.int (2 : Int32)), .val (.long q1), .second, .val (.long q2), .second, .val (.long q3), .second, .unset, .unset, .unset, .unset, .unset, .unset, .unset, .unset, .unset, .unset, .unset, .unset, .unset, .unset, .unset, .unset, .unset] [(.ref a3)]
    refine go_dup 33 rfl at_32 rfl rfl ?_
    refine go_iload 35 rfl at_33 rfl ?_
    refine go_callI 38 rfl at_35 rfl (wd hw 3 rfl) (wd hw 4 rfl) (wd hw 2 rfl) (wd hw 5 rfl) (by decide) (mt10 Z a0 hw h0 SW a3) (argsL := [(.int (2 : Int32))]) (rest := [(.ref a3)]) rfl (ret := none) (ps := [.int]) (by decide +kernel) rfl rfl 1 rfl (by decide) (by decide) (by decide) (by decide) ?_
    rintro _ _ ⟨a4, rfl, rfl⟩
    show Go B0 Z a0 h0 _ 2 5 [ob a3 "com/example/offboard/offboard/fix/Throttle" [("com/example/offboard/offboard/fix/Throttle", "passed", "[J", (.ref a4)), ("com/example/offboard/offboard/fix/Throttle", "count", "I", (.int (0 : Int32))), ("com/example/offboard/offboard/fix/Throttle", "next", "I", (.int (0 : Int32)))], ar a4 .long [(.long (0 : Int64)), (.long (0 : Int64))]] 38 #[.val (.long q0), .second, .val (.int p1), .val (.int p2), .val (.int p3), .val (.int p4), .val (.int (2 : Int32)), .val (.long q1), .second, .val (.long q2), .second, .val (.long q3), .second, .unset, .unset, .unset, .unset, .unset, .unset, .unset, .unset, .unset, .unset, .unset, .unset, .unset, .unset, .unset, .unset, .unset] [(.ref a3)]
    refine go_astore #[.val (.long q0), .second, .val (.int p1), .val (.int p2), .val (.int p3), .val (.int p4), .val (.int (2 : Int32)), .val (.long q1), .second, .val (.long q2), .second, .val (.long q3), .second, .val (.ref a3), .unset, .unset, .unset, .unset, .unset, .unset, .unset, .unset, .unset, .unset, .unset, .unset, .unset, .unset, .unset, .unset] 40 rfl at_38 rfl rfl rfl ?_
    refine go_aload 42 rfl at_40 rfl rfl ?_
    refine go_lloadN 43 rfl at_42 rfl ?_
    refine go_callV 46 rfl at_43 (wd hw 12 rfl) (wd hw 13 rfl) (wd hw 15 rfl) (wd hw 14 rfl) (wd hw 2 rfl) (wd hw 16 rfl) (by decide) (Mo.exa (i := 0) rfl) (mt11 Z a0 hw h0 SW a3 a4 q0) (argsL := [(.long q0)]) (rest := []) rfl (ps := [.long]) (by decide +kernel) rfl rfl 0 rfl (by decide) (by decide) (by decide) (by decide) ?_
    rintro _ _ ⟨rfl, rfl⟩
    show Go B0 Z a0 h0 _ 2 5 [ob a3 "com/example/offboard/offboard/fix/Throttle" [("com/example/offboard/offboard/fix/Throttle", "passed", "[J", (.ref a4)), ("com/example/offboard/offboard/fix/Throttle", "count", "I", (.int (1 : Int32))), ("com/example/offboard/offboard/fix/Throttle", "next", "I", (.int (1 : Int32)))], ar a4 .long [(.long q0), (.long (0 : Int64))]] 46 #[.val (.long q0), .second, .val (.int p1), .val (.int p2), .val (.int p3), .val (.int p4), .val (.int (2 : Int32)), .val (.long q1), .second, .val (.long q2), .second, .val (.long q3), .second, .val (.ref a3), .unset, .unset, .unset, .unset, .unset, .unset, .unset, .unset, .unset, .unset, .unset, .unset, .unset, .unset, .unset, .unset] [(.long q0)]
    refine go_lstore #[.val (.long q0), .second, .val (.int p1), .val (.int p2), .val (.int p3), .val (.int p4), .val (.int (2 : Int32)), .val (.long q1), .second, .val (.long q2), .second, .val (.long q3), .second, .val (.ref a3), .val (.long q0), .second, .unset, .unset, .unset, .unset, .unset, .unset, .unset, .unset, .unset, .unset, .unset, .unset, .unset, .unset] 48 rfl at_46 rfl rfl ?_
    refine go_aload 50 rfl at_48 rfl rfl ?_
    refine go_lload 52 rfl at_50 rfl ?_
    refine go_callV 55 rfl at_52 (wd hw 12 rfl) (wd hw 13 rfl) (wd hw 15 rfl) (wd hw 14 rfl) (wd hw 2 rfl) (wd hw 16 rfl) (by decide) (Mo.exa (i := 0) rfl) (mt12 Z a0 hw h0 SW a3 a4 q0 q1) (argsL := [(.long q1)]) (rest := []) rfl (ps := [.long]) (by decide +kernel) rfl rfl 0 rfl (by decide) (by decide) (by decide) (by decide) ?_
    rintro _ _ ⟨rfl, rfl⟩
    show Go B0 Z a0 h0 _ 2 5 [ob a3 "com/example/offboard/offboard/fix/Throttle" [("com/example/offboard/offboard/fix/Throttle", "passed", "[J", (.ref a4)), ("com/example/offboard/offboard/fix/Throttle", "count", "I", (.int (2 : Int32))), ("com/example/offboard/offboard/fix/Throttle", "next", "I", (.int (0 : Int32)))], ar a4 .long [(.long q0), (.long q1)]] 55 #[.val (.long q0), .second, .val (.int p1), .val (.int p2), .val (.int p3), .val (.int p4), .val (.int (2 : Int32)), .val (.long q1), .second, .val (.long q2), .second, .val (.long q3), .second, .val (.ref a3), .val (.long q0), .second, .unset, .unset, .unset, .unset, .unset, .unset, .unset, .unset, .unset, .unset, .unset, .unset, .unset, .unset] [(.long q1)]
    refine go_lstore #[.val (.long q0), .second, .val (.int p1), .val (.int p2), .val (.int p3), .val (.int p4), .val (.int (2 : Int32)), .val (.long q1), .second, .val (.long q2), .second, .val (.long q3), .second, .val (.ref a3), .val (.long q0), .second, .val (.long q1), .second, .unset, .unset, .unset, .unset, .unset, .unset, .unset, .unset, .unset, .unset, .unset, .unset] 57 rfl at_55 rfl rfl ?_
    refine go_aload 59 rfl at_57 rfl rfl ?_
    refine go_lload 61 rfl at_59 rfl ?_
    refine go_callV 64 rfl at_61 (wd hw 12 rfl) (wd hw 13 rfl) (wd hw 15 rfl) (wd hw 14 rfl) (wd hw 2 rfl) (wd hw 16 rfl) (by decide) (Mo.exa (i := 0) rfl) (mt13 Z a0 hw h0 SW a3 a4 q0 q1 q2) (argsL := [(.long q2)]) (rest := []) rfl (ps := [.long]) (by decide +kernel) rfl rfl 0 rfl (by decide) (by decide) (by decide) (by decide) ?_
    rintro _ _ ⟨rfl, rfl⟩
    show Go B0 Z a0 h0 _ 2 5 [ob a3 "com/example/offboard/offboard/fix/Throttle" [("com/example/offboard/offboard/fix/Throttle", "passed", "[J", (.ref a4)), ("com/example/offboard/offboard/fix/Throttle", "count", "I", (.int (2 : Int32))), ("com/example/offboard/offboard/fix/Throttle", "next", "I", (.int (1 : Int32)))], ar a4 .long [(.long (lt1 q0 q2)), (.long q1)]] 64 #[.val (.long q0), .second, .val (.int p1), .val (.int p2), .val (.int p3), .val (.int p4), .val (.int (2 : Int32)), .val (.long q1), .second, .val (.long q2), .second, .val (.long q3), .second, .val (.ref a3), .val (.long q0), .second, .val (.long q1), .second, .unset, .unset, .unset, .unset, .unset, .unset, .unset, .unset, .unset, .unset, .unset, .unset] [(.long (lt1 q0 q2))]
    refine go_lstore #[.val (.long q0), .second, .val (.int p1), .val (.int p2), .val (.int p3), .val (.int p4), .val (.int (2 : Int32)), .val (.long q1), .second, .val (.long q2), .second, .val (.long q3), .second, .val (.ref a3), .val (.long q0), .second, .val (.long q1), .second, .val (.long (lt1 q0 q2)), .second, .unset, .unset, .unset, .unset, .unset, .unset, .unset, .unset, .unset, .unset] 66 rfl at_64 rfl rfl ?_
    refine go_aload 68 rfl at_66 rfl rfl ?_
    refine go_lload 70 rfl at_68 rfl ?_
    refine go_callV 73 rfl at_70 (wd hw 12 rfl) (wd hw 13 rfl) (wd hw 15 rfl) (wd hw 14 rfl) (wd hw 2 rfl) (wd hw 16 rfl) (by decide) (Mo.exa (i := 0) rfl) (mt15 Z a0 hw h0 SW a3 a4 q0 q2 q1 q3) (argsL := [(.long q3)]) (rest := []) rfl (ps := [.long]) (by decide +kernel) rfl rfl 0 rfl (by decide) (by decide) (by decide) (by decide) ?_
    rintro _ _ ⟨rfl, rfl⟩
    show Go B0 Z a0 h0 _ 2 5 [ob a3 "com/example/offboard/offboard/fix/Throttle" [("com/example/offboard/offboard/fix/Throttle", "passed", "[J", (.ref a4)), ("com/example/offboard/offboard/fix/Throttle", "count", "I", (.int (2 : Int32))), ("com/example/offboard/offboard/fix/Throttle", "next", "I", (.int (0 : Int32)))], ar a4 .long [(.long (lt1 q0 q2)), (.long (lt1 q1 q3))]] 73 #[.val (.long q0), .second, .val (.int p1), .val (.int p2), .val (.int p3), .val (.int p4), .val (.int (2 : Int32)), .val (.long q1), .second, .val (.long q2), .second, .val (.long q3), .second, .val (.ref a3), .val (.long q0), .second, .val (.long q1), .second, .val (.long (lt1 q0 q2)), .second, .unset, .unset, .unset, .unset, .unset, .unset, .unset, .unset, .unset, .unset] [(.long (lt1 q1 q3))]
    refine go_lstore #[.val (.long q0), .second, .val (.int p1), .val (.int p2), .val (.int p3), .val (.int p4), .val (.int (2 : Int32)), .val (.long q1), .second, .val (.long q2), .second, .val (.long q3), .second, .val (.ref a3), .val (.long q0), .second, .val (.long q1), .second, .val (.long (lt1 q0 q2)), .second, .val (.long (lt1 q1 q3)), .second, .unset, .unset, .unset, .unset, .unset, .unset, .unset, .unset] 75 rfl at_73 rfl rfl ?_
    refine go_lloadN 76 rfl at_75 rfl ?_
    refine go_lstore #[.val (.long q0), .second, .val (.int p1), .val (.int p2), .val (.int p3), .val (.int p4), .val (.int (2 : Int32)), .val (.long q1), .second, .val (.long q2), .second, .val (.long q3), .second, .val (.ref a3), .val (.long q0), .second, .val (.long q1), .second, .val (.long (lt1 q0 q2)), .second, .val (.long (lt1 q1 q3)), .second, .val (.long q0), .second, .unset, .unset, .unset, .unset, .unset, .unset] 78 rfl at_76 rfl rfl ?_
    refine go_iload 80 rfl at_78 rfl ?_
    refine go_iconst (1 : Int32) 81 rfl at_80 rfl ?_
    refine go_icmp 89 84 rfl (by decide) rfl at_81 rfl (fun (hc81 : (2 : Int) ≤ (1 : Int)) => absurd hc81 (by decide)) (fun (hc81 : ¬ ((2 : Int) ≤ (1 : Int))) => ?_)
    refine go_lload 86 rfl at_84 rfl ?_
    refine go_goto 96 (by decide) rfl at_86 ?_
    refine go_lstore #[.val (.long q0), .second, .val (.int p1), .val (.int p2), .val (.int p3), .val (.int p4), .val (.int (2 : Int32)), .val (.long q1), .second, .val (.long q2), .second, .val (.long q3), .second, .val (.ref a3), .val (.long q0), .second, .val (.long q1), .second, .val (.long (lt1 q0 q2)), .second, .val (.long (lt1 q1 q3)), .second, .val (.long q0), .second, .val (.long q1), .second, .unset, .unset, .unset, .unset] 98 rfl at_96 rfl rfl ?_
    refine go_iload 100 rfl at_98 rfl ?_
    refine go_iconst (2 : Int32) 101 rfl at_100 rfl ?_
    refine go_icmp 109 104 rfl (by decide) rfl at_101 rfl (fun (hc101 : (2 : Int) ≤ (2 : Int)) => ?_) (fun (hc101 : ¬ ((2 : Int) ≤ (2 : Int))) => absurd hc101 (by decide))
    refine go_iload 111 rfl at_109 rfl ?_
    refine go_iconst (1 : Int32) 112 rfl at_111 rfl ?_
    refine go_icmp 120 115 rfl (by decide) rfl at_112 rfl (fun (hc112 : (2 : Int) ≠ (1 : Int)) => ?_) (fun (hc112 : ¬ ((2 : Int) ≠ (1 : Int))) => absurd hc112 (by decide))
    refine go_lload 122 rfl at_120 rfl ?_
    refine go_lload 124 rfl at_122 rfl ?_
    refine go_callS 127 rfl at_124 (wd hw 23 rfl) (wd hw 24 rfl) (wd hw 25 rfl) (wd hw 26 rfl) (by decide) (m_later Z a0 hw h0 [ob a3 "com/example/offboard/offboard/fix/Throttle" [("com/example/offboard/offboard/fix/Throttle", "passed", "[J", (.ref a4)), ("com/example/offboard/offboard/fix/Throttle", "count", "I", (.int (2 : Int32))), ("com/example/offboard/offboard/fix/Throttle", "next", "I", (.int (0 : Int32)))], ar a4 .long [(.long (lt1 q0 q2)), (.long (lt1 q1 q3))]] q0 q2) (argsL := [(.long q0), (.long q2)]) (rest := []) rfl (ps := [.long, .long]) (by decide +kernel) rfl rfl 0 rfl (by decide) (by decide) (by decide) (by decide) ?_
    rintro _ _ ⟨rfl, rfl⟩
    show Go B0 Z a0 h0 _ 2 5 [ob a3 "com/example/offboard/offboard/fix/Throttle" [("com/example/offboard/offboard/fix/Throttle", "passed", "[J", (.ref a4)), ("com/example/offboard/offboard/fix/Throttle", "count", "I", (.int (2 : Int32))), ("com/example/offboard/offboard/fix/Throttle", "next", "I", (.int (0 : Int32)))], ar a4 .long [(.long (lt1 q0 q2)), (.long (lt1 q1 q3))]] 127 #[.val (.long q0), .second, .val (.int p1), .val (.int p2), .val (.int p3), .val (.int p4), .val (.int (2 : Int32)), .val (.long q1), .second, .val (.long q2), .second, .val (.long q3), .second, .val (.ref a3), .val (.long q0), .second, .val (.long q1), .second, .val (.long (lt1 q0 q2)), .second, .val (.long (lt1 q1 q3)), .second, .val (.long q0), .second, .val (.long q1), .second, .unset, .unset, .unset, .unset] [(.long (lt1 q0 q2))]
    refine go_lstore #[.val (.long q0), .second, .val (.int p1), .val (.int p2), .val (.int p3), .val (.int p4), .val (.int (2 : Int32)), .val (.long q1), .second, .val (.long q2), .second, .val (.long q3), .second, .val (.ref a3), .val (.long q0), .second, .val (.long q1), .second, .val (.long (lt1 q0 q2)), .second, .val (.long (lt1 q1 q3)), .second, .val (.long q0), .second, .val (.long q1), .second, .val (.long (lt1 q0 q2)), .second, .unset, .unset] 129 rfl at_127 rfl rfl ?_
    refine go_iload 131 rfl at_129 rfl ?_
    refine go_iconst (3 : Int32) 132 rfl at_131 rfl ?_
    refine go_icmp 140 135 rfl (by decide) rfl at_132 rfl (fun (hc132 : (2 : Int) ≤ (3 : Int)) => ?_) (fun (hc132 : ¬ ((2 : Int) ≤ (3 : Int))) => absurd hc132 (by decide))
    refine go_iload 142 rfl at_140 rfl ?_
    refine go_iconst (1 : Int32) 143 rfl at_142 rfl ?_
    refine go_icmp 151 146 rfl (by decide) rfl at_143 rfl (fun (hc143 : (2 : Int) ≠ (1 : Int)) => ?_) (fun (hc143 : ¬ ((2 : Int) ≠ (1 : Int))) => absurd hc143 (by decide))
    refine go_iload 153 rfl at_151 rfl ?_
    refine go_iconst (2 : Int32) 154 rfl at_153 rfl ?_
    refine go_icmp 162 157 rfl (by decide) rfl at_154 rfl (fun (hc154 : (2 : Int) ≠ (2 : Int)) => absurd hc154 (by decide)) (fun (hc154 : ¬ ((2 : Int) ≠ (2 : Int))) => ?_)
    refine go_lload 159 rfl at_157 rfl ?_
    refine go_goto 164 (by decide) rfl at_159 ?_
    refine go_lload 166 rfl at_164 rfl ?_
    refine go_callS 169 rfl at_166 (wd hw 23 rfl) (wd hw 24 rfl) (wd hw 25 rfl) (wd hw 26 rfl) (by decide) (m_later Z a0 hw h0 [ob a3 "com/example/offboard/offboard/fix/Throttle" [("com/example/offboard/offboard/fix/Throttle", "passed", "[J", (.ref a4)), ("com/example/offboard/offboard/fix/Throttle", "count", "I", (.int (2 : Int32))), ("com/example/offboard/offboard/fix/Throttle", "next", "I", (.int (0 : Int32)))], ar a4 .long [(.long (lt1 q0 q2)), (.long (lt1 q1 q3))]] q1 q3) (argsL := [(.long q1), (.long q3)]) (rest := []) rfl (ps := [.long, .long]) (by decide +kernel) rfl rfl 0 rfl (by decide) (by decide) (by decide) (by decide) ?_
    rintro _ _ ⟨rfl, rfl⟩
    show Go B0 Z a0 h0 _ 2 5 [ob a3 "com/example/offboard/offboard/fix/Throttle" [("com/example/offboard/offboard/fix/Throttle", "passed", "[J", (.ref a4)), ("com/example/offboard/offboard/fix/Throttle", "count", "I", (.int (2 : Int32))), ("com/example/offboard/offboard/fix/Throttle", "next", "I", (.int (0 : Int32)))], ar a4 .long [(.long (lt1 q0 q2)), (.long (lt1 q1 q3))]] 169 #[.val (.long q0), .second, .val (.int p1), .val (.int p2), .val (.int p3), .val (.int p4), .val (.int (2 : Int32)), .val (.long q1), .second, .val (.long q2), .second, .val (.long q3), .second, .val (.ref a3), .val (.long q0), .second, .val (.long q1), .second, .val (.long (lt1 q0 q2)), .second, .val (.long (lt1 q1 q3)), .second, .val (.long q0), .second, .val (.long q1), .second, .val (.long (lt1 q0 q2)), .second, .unset, .unset] [(.long (lt1 q1 q3))]
    refine go_lstore #[.val (.long q0), .second, .val (.int p1), .val (.int p2), .val (.int p3), .val (.int p4), .val (.int (2 : Int32)), .val (.long q1), .second, .val (.long q2), .second, .val (.long q3), .second, .val (.ref a3), .val (.long q0), .second, .val (.long q1), .second, .val (.long (lt1 q0 q2)), .second, .val (.long (lt1 q1 q3)), .second, .val (.long q0), .second, .val (.long q1), .second, .val (.long (lt1 q0 q2)), .second, .val (.long (lt1 q1 q3)), .second] 171 rfl at_169 rfl rfl ?_
    refine go_lload 173 rfl at_171 rfl ?_
    refine go_lload 175 rfl at_173 rfl ?_
    refine go_lcmp 176 rfl at_175 rfl ?_
    refine go_if 207 179 rfl (by decide) rfl at_176 rfl (fun (hc176 : (lcmpW q0 q0).toInt ≠ 0) => absurd hc176 (by exact fun q => q (lcmp_self _))) (fun (hc176 : ¬ ((lcmpW q0 q0).toInt ≠ 0)) => ?_)
    refine go_lload 181 rfl at_179 rfl ?_
    refine go_lload 183 rfl at_181 rfl ?_
    refine go_lcmp 184 rfl at_183 rfl ?_
    refine go_if 207 187 rfl (by decide) rfl at_184 rfl (fun (hc184 : (lcmpW q1 q1).toInt ≠ 0) => absurd hc184 (by exact fun q => q (lcmp_self _))) (fun (hc184 : ¬ ((lcmpW q1 q1).toInt ≠ 0)) => ?_)
    refine go_lload 189 rfl at_187 rfl ?_
    refine go_lload 191 rfl at_189 rfl ?_
    refine go_lcmp 192 rfl at_191 rfl ?_
    refine go_if 207 195 rfl (by decide) rfl at_192 rfl (fun (hc192 : (lcmpW (lt1 q0 q2) (lt1 q0 q2)).toInt ≠ 0) => absurd hc192 (by exact fun q => q (lcmp_self _))) (fun (hc192 : ¬ ((lcmpW (lt1 q0 q2) (lt1 q0 q2)).toInt ≠ 0)) => ?_)
    refine go_lload 197 rfl at_195 rfl ?_
    refine go_lload 199 rfl at_197 rfl ?_
    refine go_lcmp 200 rfl at_199 rfl ?_
    refine go_if 207 203 rfl (by decide) rfl at_200 rfl (fun (hc200 : (lcmpW (lt1 q1 q3) (lt1 q1 q3)).toInt ≠ 0) => absurd hc200 (by exact fun q => q (lcmp_self _))) (fun (hc200 : ¬ ((lcmpW (lt1 q1 q3) (lt1 q1 q3)).toInt ≠ 0)) => ?_)
    refine go_iconst (1 : Int32) 204 rfl at_203 rfl ?_
    refine go_goto 208 (by decide) rfl at_204 ?_
    exact go_ireturn at_208 rfl (Or.inr (Or.inl rfl)) rfl rfl (by decide) (by decide) rfl
  · rw [hb]
    refine go_iadd 6 rfl at_5 rfl ?_
    show Go B0 Z a0 h0 _ 0 0 [] 6 #[.val (.long q0), .second, .val (.int p1), .val (.int p2), .val (.int p3), .val (.int p4), .unset, .unset, .unset, .unset, .unset, .unset, .unset, .unset, .unset, .unset, .unset, .unset, .unset, .unset, .unset, .unset, .unset, .unset, .unset, .unset, .unset, .unset, .unset, .unset] [(.int (3 : Int32))]
    refine go_istore #[.val (.long q0), .second, .val (.int p1), .val (.int p2), .val (.int p3), .val (.int p4), .val (.int (3 : Int32)), .unset, .unset, .unset, .unset, .unset, .unset, .unset, .unset, .unset, .unset, .unset, .unset, .unset, .unset, .unset, .unset, .unset, .unset, .unset, .unset, .unset, .unset, .unset] 8 rfl at_6 rfl rfl ?_
    refine go_lloadN 9 rfl at_8 rfl ?_
    refine go_iloadN 10 rfl at_9 rfl ?_
    refine go_i2l 11 rfl at_10 rfl ?_
    refine go_ladd 12 rfl at_11 rfl ?_
    generalize hq1 : (q0 + (p1.toInt64)) = q1
    refine go_lstore #[.val (.long q0), .second, .val (.int p1), .val (.int p2), .val (.int p3), .val (.int p4), .val (.int (3 : Int32)), .val (.long q1), .second, .unset, .unset, .unset, .unset, .unset, .unset, .unset, .unset, .unset, .unset, .unset, .unset, .unset, .unset, .unset, .unset, .unset, .unset, .unset, .unset, .unset] 14 rfl at_12 rfl rfl ?_
    refine go_lload 16 rfl at_14 rfl ?_
    refine go_iloadN 17 rfl at_16 rfl ?_
    refine go_i2l 18 rfl at_17 rfl ?_
    refine go_ladd 19 rfl at_18 rfl ?_
    generalize hq2 : (q1 + (p2.toInt64)) = q2
    refine go_lstore #[.val (.long q0), .second, .val (.int p1), .val (.int p2), .val (.int p3), .val (.int p4), .val (.int (3 : Int32)), .val (.long q1), .second, .val (.long q2), .second, .unset, .unset, .unset, .unset, .unset, .unset, .unset, .unset, .unset, .unset, .unset, .unset, .unset, .unset, .unset, .unset, .unset, .unset, .unset] 21 rfl at_19 rfl rfl ?_
    refine go_lload 23 rfl at_21 rfl ?_
    refine go_iload 25 rfl at_23 rfl ?_
    refine go_i2l 26 rfl at_25 rfl ?_
    refine go_ladd 27 rfl at_26 rfl ?_
    generalize hq3 : (q2 + (p3.toInt64)) = q3
    refine go_lstore #[.val (.long q0), .second, .val (.int p1), .val (.int p2), .val (.int p3), .val (.int p4), .val (.int (3 : Int32)), .val (.long q1), .second, .val (.long q2), .second, .val (.long q3), .second, .unset, .unset, .unset, .unset, .unset, .unset, .unset, .unset, .unset, .unset, .unset, .unset, .unset, .unset, .unset, .unset, .unset] 29 rfl at_27 rfl rfl ?_
    refine go_new 32 rfl at_29 (wd hw 0 rfl) (wd hw 1 rfl) (wd hw 2 rfl) (by decide) (by decide) [("com/example/offboard/offboard/fix/Throttle", "passed", "[J", .null), ("com/example/offboard/offboard/fix/Throttle", "count", "I", (.int (0 : Int32))), ("com/example/offboard/offboard/fix/Throttle", "next", "I", (.int (0 : Int32)))] ⟨⟨Or.inr (wd hw 11 rfl), _, rfl, rfl⟩, ⟨⟨Or.inl (wd hw 18 rfl), _, rfl, rfl⟩, ⟨⟨Or.inl (wd hw 20 rfl), _, rfl, rfl⟩, trivial⟩⟩⟩ (by decide) (fun a5 => ?_)
    show Go B0 Z a0 h0 _ 1 3 [ob a5 "com/example/offboard/offboard/fix/Throttle" [("com/example/offboard/offboard/fix/Throttle", "passed", "[J", .null), ("com/example/offboard/offboard/fix/Throttle", "count", "I", (.int (0 : Int32))), ("com/example/offboard/offboard/fix/Throttle", "next", "I", (.int (0 : Int32)))]] 32 #[.val (.long q0), .second, .val (.int p1), .val (.int p2), .val (.int p3), .val (.int p4), .val (.int (3 : Int32)), .val (.long q1), .second, .val (.long q2), .second, .val (.long q3), .second, .unset, .unset, .unset, .unset, .unset, .unset, .unset, .unset, .unset, .unset, .unset, .unset, .unset, .unset, .unset, .unset, .unset] [(.ref a5)]
    refine go_dup 33 rfl at_32 rfl rfl ?_
    refine go_iload 35 rfl at_33 rfl ?_
    refine go_callI 38 rfl at_35 rfl (wd hw 3 rfl) (wd hw 4 rfl) (wd hw 2 rfl) (wd hw 5 rfl) (by decide) (mt17 Z a0 hw h0 SW a5) (argsL := [(.int (3 : Int32))]) (rest := [(.ref a5)]) rfl (ret := none) (ps := [.int]) (by decide +kernel) rfl rfl 1 rfl (by decide) (by decide) (by decide) (by decide) ?_
    rintro _ _ ⟨a6, rfl, rfl⟩
    show Go B0 Z a0 h0 _ 2 6 [ob a5 "com/example/offboard/offboard/fix/Throttle" [("com/example/offboard/offboard/fix/Throttle", "passed", "[J", (.ref a6)), ("com/example/offboard/offboard/fix/Throttle", "count", "I", (.int (0 : Int32))), ("com/example/offboard/offboard/fix/Throttle", "next", "I", (.int (0 : Int32)))], ar a6 .long [(.long (0 : Int64)), (.long (0 : Int64)), (.long (0 : Int64))]] 38 #[.val (.long q0), .second, .val (.int p1), .val (.int p2), .val (.int p3), .val (.int p4), .val (.int (3 : Int32)), .val (.long q1), .second, .val (.long q2), .second, .val (.long q3), .second, .unset, .unset, .unset, .unset, .unset, .unset, .unset, .unset, .unset, .unset, .unset, .unset, .unset, .unset, .unset, .unset, .unset] [(.ref a5)]
    refine go_astore #[.val (.long q0), .second, .val (.int p1), .val (.int p2), .val (.int p3), .val (.int p4), .val (.int (3 : Int32)), .val (.long q1), .second, .val (.long q2), .second, .val (.long q3), .second, .val (.ref a5), .unset, .unset, .unset, .unset, .unset, .unset, .unset, .unset, .unset, .unset, .unset, .unset, .unset, .unset, .unset, .unset] 40 rfl at_38 rfl rfl rfl ?_
    refine go_aload 42 rfl at_40 rfl rfl ?_
    refine go_lloadN 43 rfl at_42 rfl ?_
    refine go_callV 46 rfl at_43 (wd hw 12 rfl) (wd hw 13 rfl) (wd hw 15 rfl) (wd hw 14 rfl) (wd hw 2 rfl) (wd hw 16 rfl) (by decide) (Mo.exa (i := 0) rfl) (mt18 Z a0 hw h0 SW a5 a6 q0) (argsL := [(.long q0)]) (rest := []) rfl (ps := [.long]) (by decide +kernel) rfl rfl 0 rfl (by decide) (by decide) (by decide) (by decide) ?_
    rintro _ _ ⟨rfl, rfl⟩
    show Go B0 Z a0 h0 _ 2 6 [ob a5 "com/example/offboard/offboard/fix/Throttle" [("com/example/offboard/offboard/fix/Throttle", "passed", "[J", (.ref a6)), ("com/example/offboard/offboard/fix/Throttle", "count", "I", (.int (1 : Int32))), ("com/example/offboard/offboard/fix/Throttle", "next", "I", (.int (1 : Int32)))], ar a6 .long [(.long q0), (.long (0 : Int64)), (.long (0 : Int64))]] 46 #[.val (.long q0), .second, .val (.int p1), .val (.int p2), .val (.int p3), .val (.int p4), .val (.int (3 : Int32)), .val (.long q1), .second, .val (.long q2), .second, .val (.long q3), .second, .val (.ref a5), .unset, .unset, .unset, .unset, .unset, .unset, .unset, .unset, .unset, .unset, .unset, .unset, .unset, .unset, .unset, .unset] [(.long q0)]
    refine go_lstore #[.val (.long q0), .second, .val (.int p1), .val (.int p2), .val (.int p3), .val (.int p4), .val (.int (3 : Int32)), .val (.long q1), .second, .val (.long q2), .second, .val (.long q3), .second, .val (.ref a5), .val (.long q0), .second, .unset, .unset, .unset, .unset, .unset, .unset, .unset, .unset, .unset, .unset, .unset, .unset, .unset, .unset] 48 rfl at_46 rfl rfl ?_
    refine go_aload 50 rfl at_48 rfl rfl ?_
    refine go_lload 52 rfl at_50 rfl ?_
    refine go_callV 55 rfl at_52 (wd hw 12 rfl) (wd hw 13 rfl) (wd hw 15 rfl) (wd hw 14 rfl) (wd hw 2 rfl) (wd hw 16 rfl) (by decide) (Mo.exa (i := 0) rfl) (mt19 Z a0 hw h0 SW a5 a6 q0 q1) (argsL := [(.long q1)]) (rest := []) rfl (ps := [.long]) (by decide +kernel) rfl rfl 0 rfl (by decide) (by decide) (by decide) (by decide) ?_
    rintro _ _ ⟨rfl, rfl⟩
    show Go B0 Z a0 h0 _ 2 6 [ob a5 "com/example/offboard/offboard/fix/Throttle" [("com/example/offboard/offboard/fix/Throttle", "passed", "[J", (.ref a6)), ("com/example/offboard/offboard/fix/Throttle", "count", "I", (.int (2 : Int32))), ("com/example/offboard/offboard/fix/Throttle", "next", "I", (.int (2 : Int32)))], ar a6 .long [(.long q0), (.long q1), (.long (0 : Int64))]] 55 #[.val (.long q0), .second, .val (.int p1), .val (.int p2), .val (.int p3), .val (.int p4), .val (.int (3 : Int32)), .val (.long q1), .second, .val (.long q2), .second, .val (.long q3), .second, .val (.ref a5), .val (.long q0), .second, .unset, .unset, .unset, .unset, .unset, .unset, .unset, .unset, .unset, .unset, .unset, .unset, .unset, .unset] [(.long q1)]
    refine go_lstore #[.val (.long q0), .second, .val (.int p1), .val (.int p2), .val (.int p3), .val (.int p4), .val (.int (3 : Int32)), .val (.long q1), .second, .val (.long q2), .second, .val (.long q3), .second, .val (.ref a5), .val (.long q0), .second, .val (.long q1), .second, .unset, .unset, .unset, .unset, .unset, .unset, .unset, .unset, .unset, .unset, .unset, .unset] 57 rfl at_55 rfl rfl ?_
    refine go_aload 59 rfl at_57 rfl rfl ?_
    refine go_lload 61 rfl at_59 rfl ?_
    refine go_callV 64 rfl at_61 (wd hw 12 rfl) (wd hw 13 rfl) (wd hw 15 rfl) (wd hw 14 rfl) (wd hw 2 rfl) (wd hw 16 rfl) (by decide) (Mo.exa (i := 0) rfl) (mt20 Z a0 hw h0 SW a5 a6 q0 q1 q2) (argsL := [(.long q2)]) (rest := []) rfl (ps := [.long]) (by decide +kernel) rfl rfl 0 rfl (by decide) (by decide) (by decide) (by decide) ?_
    rintro _ _ ⟨rfl, rfl⟩
    show Go B0 Z a0 h0 _ 2 6 [ob a5 "com/example/offboard/offboard/fix/Throttle" [("com/example/offboard/offboard/fix/Throttle", "passed", "[J", (.ref a6)), ("com/example/offboard/offboard/fix/Throttle", "count", "I", (.int (3 : Int32))), ("com/example/offboard/offboard/fix/Throttle", "next", "I", (.int (0 : Int32)))], ar a6 .long [(.long q0), (.long q1), (.long q2)]] 64 #[.val (.long q0), .second, .val (.int p1), .val (.int p2), .val (.int p3), .val (.int p4), .val (.int (3 : Int32)), .val (.long q1), .second, .val (.long q2), .second, .val (.long q3), .second, .val (.ref a5), .val (.long q0), .second, .val (.long q1), .second, .unset, .unset, .unset, .unset, .unset, .unset, .unset, .unset, .unset, .unset, .unset, .unset] [(.long q2)]
    refine go_lstore #[.val (.long q0), .second, .val (.int p1), .val (.int p2), .val (.int p3), .val (.int p4), .val (.int (3 : Int32)), .val (.long q1), .second, .val (.long q2), .second, .val (.long q3), .second, .val (.ref a5), .val (.long q0), .second, .val (.long q1), .second, .val (.long q2), .second, .unset, .unset, .unset, .unset, .unset, .unset, .unset, .unset, .unset, .unset] 66 rfl at_64 rfl rfl ?_
    refine go_aload 68 rfl at_66 rfl rfl ?_
    refine go_lload 70 rfl at_68 rfl ?_
    refine go_callV 73 rfl at_70 (wd hw 12 rfl) (wd hw 13 rfl) (wd hw 15 rfl) (wd hw 14 rfl) (wd hw 2 rfl) (wd hw 16 rfl) (by decide) (Mo.exa (i := 0) rfl) (mt21 Z a0 hw h0 SW a5 a6 q0 q1 q2 q3) (argsL := [(.long q3)]) (rest := []) rfl (ps := [.long]) (by decide +kernel) rfl rfl 0 rfl (by decide) (by decide) (by decide) (by decide) ?_
    rintro _ _ ⟨rfl, rfl⟩
    show Go B0 Z a0 h0 _ 2 6 [ob a5 "com/example/offboard/offboard/fix/Throttle" [("com/example/offboard/offboard/fix/Throttle", "passed", "[J", (.ref a6)), ("com/example/offboard/offboard/fix/Throttle", "count", "I", (.int (3 : Int32))), ("com/example/offboard/offboard/fix/Throttle", "next", "I", (.int (1 : Int32)))], ar a6 .long [(.long (lt1 q0 q3)), (.long q1), (.long q2)]] 73 #[.val (.long q0), .second, .val (.int p1), .val (.int p2), .val (.int p3), .val (.int p4), .val (.int (3 : Int32)), .val (.long q1), .second, .val (.long q2), .second, .val (.long q3), .second, .val (.ref a5), .val (.long q0), .second, .val (.long q1), .second, .val (.long q2), .second, .unset, .unset, .unset, .unset, .unset, .unset, .unset, .unset, .unset, .unset] [(.long (lt1 q0 q3))]
    refine go_lstore #[.val (.long q0), .second, .val (.int p1), .val (.int p2), .val (.int p3), .val (.int p4), .val (.int (3 : Int32)), .val (.long q1), .second, .val (.long q2), .second, .val (.long q3), .second, .val (.ref a5), .val (.long q0), .second, .val (.long q1), .second, .val (.long q2), .second, .val (.long (lt1 q0 q3)), .second, .unset, .unset, .unset, .unset, .unset, .unset, .unset, .unset] 75 rfl at_73 rfl rfl ?_
    refine go_lloadN 76 rfl at_75 rfl ?_
    refine go_lstore #[.val (.long q0), .second, .val (.int p1), .val (.int p2), .val (.int p3), .val (.int p4), .val (.int (3 : Int32)), .val (.long q1), .second, .val (.long q2), .second, .val (.long q3), .second, .val (.ref a5), .val (.long q0), .second, .val (.long q1), .second, .val (.long q2), .second, .val (.long (lt1 q0 q3)), .second, .val (.long q0), .second, .unset, .unset, .unset, .unset, .unset, .unset] 78 rfl at_76 rfl rfl ?_
    refine go_iload 80 rfl at_78 rfl ?_
    refine go_iconst (1 : Int32) 81 rfl at_80 rfl ?_
    refine go_icmp 89 84 rfl (by decide) rfl at_81 rfl (fun (hc81 : (3 : Int) ≤ (1 : Int)) => absurd hc81 (by decide)) (fun (hc81 : ¬ ((3 : Int) ≤ (1 : Int))) => ?_)
    refine go_lload 86 rfl at_84 rfl ?_
    refine go_goto 96 (by decide) rfl at_86 ?_
    refine go_lstore #[.val (.long q0), .second, .val (.int p1), .val (.int p2), .val (.int p3), .val (.int p4), .val (.int (3 : Int32)), .val (.long q1), .second, .val (.long q2), .second, .val (.long q3), .second, .val (.ref a5), .val (.long q0), .second, .val (.long q1), .second, .val (.long q2), .second, .val (.long (lt1 q0 q3)), .second, .val (.long q0), .second, .val (.long q1), .second, .unset, .unset, .unset, .unset] 98 rfl at_96 rfl rfl ?_
    refine go_iload 100 rfl at_98 rfl ?_
    refine go_iconst (2 : Int32) 101 rfl at_100 rfl ?_
    refine go_icmp 109 104 rfl (by decide) rfl at_101 rfl (fun (hc101 : (3 : Int) ≤ (2 : Int)) => absurd hc101 (by decide)) (fun (hc101 : ¬ ((3 : Int) ≤ (2 : Int))) => ?_)
    refine go_lload 106 rfl at_104 rfl ?_
    refine go_goto 127 (by decide) rfl at_106 ?_
    refine go_lstore #[.val (.long q0), .second, .val (.int p1), .val (.int p2), .val (.int p3), .val (.int p4), .val (.int (3 : Int32)), .val (.long q1), .second, .val (.long q2), .second, .val (.long q3), .second, .val (.ref a5), .val (.long q0), .second, .val (.long q1), .second, .val (.long q2), .second, .val (.long (lt1 q0 q3)), .second, .val (.long q0), .second, .val (.long q1), .second, .val (.long q2), .second, .unset, .unset] 129 rfl at_127 rfl rfl ?_
    refine go_iload 131 rfl at_129 rfl ?_
    refine go_iconst (3 : Int32) 132 rfl at_131 rfl ?_
    refine go_icmp 140 135 rfl (by decide) rfl at_132 rfl (fun (hc132 : (3 : Int) ≤ (3 : Int)) => ?_) (fun (hc132 : ¬ ((3 : Int) ≤ (3 : Int))) => absurd hc132 (by decide))
    refine go_iload 142 rfl at_140 rfl ?_
    refine go_iconst (1 : Int32) 143 rfl at_142 rfl ?_
    refine go_icmp 151 146 rfl (by decide) rfl at_143 rfl (fun (hc143 : (3 : Int) ≠ (1 : Int)) => ?_) (fun (hc143 : ¬ ((3 : Int) ≠ (1 : Int))) => absurd hc143 (by decide))
    refine go_iload 153 rfl at_151 rfl ?_
    refine go_iconst (2 : Int32) 154 rfl at_153 rfl ?_
    refine go_icmp 162 157 rfl (by decide) rfl at_154 rfl (fun (hc154 : (3 : Int) ≠ (2 : Int)) => ?_) (fun (hc154 : ¬ ((3 : Int) ≠ (2 : Int))) => absurd hc154 (by decide))
    refine go_lload 164 rfl at_162 rfl ?_
    refine go_lload 166 rfl at_164 rfl ?_
    refine go_callS 169 rfl at_166 (wd hw 23 rfl) (wd hw 24 rfl) (wd hw 25 rfl) (wd hw 26 rfl) (by decide) (m_later Z a0 hw h0 [ob a5 "com/example/offboard/offboard/fix/Throttle" [("com/example/offboard/offboard/fix/Throttle", "passed", "[J", (.ref a6)), ("com/example/offboard/offboard/fix/Throttle", "count", "I", (.int (3 : Int32))), ("com/example/offboard/offboard/fix/Throttle", "next", "I", (.int (1 : Int32)))], ar a6 .long [(.long (lt1 q0 q3)), (.long q1), (.long q2)]] q0 q3) (argsL := [(.long q0), (.long q3)]) (rest := []) rfl (ps := [.long, .long]) (by decide +kernel) rfl rfl 0 rfl (by decide) (by decide) (by decide) (by decide) ?_
    rintro _ _ ⟨rfl, rfl⟩
    show Go B0 Z a0 h0 _ 2 6 [ob a5 "com/example/offboard/offboard/fix/Throttle" [("com/example/offboard/offboard/fix/Throttle", "passed", "[J", (.ref a6)), ("com/example/offboard/offboard/fix/Throttle", "count", "I", (.int (3 : Int32))), ("com/example/offboard/offboard/fix/Throttle", "next", "I", (.int (1 : Int32)))], ar a6 .long [(.long (lt1 q0 q3)), (.long q1), (.long q2)]] 169 #[.val (.long q0), .second, .val (.int p1), .val (.int p2), .val (.int p3), .val (.int p4), .val (.int (3 : Int32)), .val (.long q1), .second, .val (.long q2), .second, .val (.long q3), .second, .val (.ref a5), .val (.long q0), .second, .val (.long q1), .second, .val (.long q2), .second, .val (.long (lt1 q0 q3)), .second, .val (.long q0), .second, .val (.long q1), .second, .val (.long q2), .second, .unset, .unset] [(.long (lt1 q0 q3))]
    refine go_lstore #[.val (.long q0), .second, .val (.int p1), .val (.int p2), .val (.int p3), .val (.int p4), .val (.int (3 : Int32)), .val (.long q1), .second, .val (.long q2), .second, .val (.long q3), .second, .val (.ref a5), .val (.long q0), .second, .val (.long q1), .second, .val (.long q2), .second, .val (.long (lt1 q0 q3)), .second, .val (.long q0), .second, .val (.long q1), .second, .val (.long q2), .second, .val (.long (lt1 q0 q3)), .second] 171 rfl at_169 rfl rfl ?_
    refine go_lload 173 rfl at_171 rfl ?_
    refine go_lload 175 rfl at_173 rfl ?_
    refine go_lcmp 176 rfl at_175 rfl ?_
    refine go_if 207 179 rfl (by decide) rfl at_176 rfl (fun (hc176 : (lcmpW q0 q0).toInt ≠ 0) => absurd hc176 (by exact fun q => q (lcmp_self _))) (fun (hc176 : ¬ ((lcmpW q0 q0).toInt ≠ 0)) => ?_)
    refine go_lload 181 rfl at_179 rfl ?_
    refine go_lload 183 rfl at_181 rfl ?_
    refine go_lcmp 184 rfl at_183 rfl ?_
    refine go_if 207 187 rfl (by decide) rfl at_184 rfl (fun (hc184 : (lcmpW q1 q1).toInt ≠ 0) => absurd hc184 (by exact fun q => q (lcmp_self _))) (fun (hc184 : ¬ ((lcmpW q1 q1).toInt ≠ 0)) => ?_)
    refine go_lload 189 rfl at_187 rfl ?_
    refine go_lload 191 rfl at_189 rfl ?_
    refine go_lcmp 192 rfl at_191 rfl ?_
    refine go_if 207 195 rfl (by decide) rfl at_192 rfl (fun (hc192 : (lcmpW q2 q2).toInt ≠ 0) => absurd hc192 (by exact fun q => q (lcmp_self _))) (fun (hc192 : ¬ ((lcmpW q2 q2).toInt ≠ 0)) => ?_)
    refine go_lload 197 rfl at_195 rfl ?_
    refine go_lload 199 rfl at_197 rfl ?_
    refine go_lcmp 200 rfl at_199 rfl ?_
    refine go_if 207 203 rfl (by decide) rfl at_200 rfl (fun (hc200 : (lcmpW (lt1 q0 q3) (lt1 q0 q3)).toInt ≠ 0) => absurd hc200 (by exact fun q => q (lcmp_self _))) (fun (hc200 : ¬ ((lcmpW (lt1 q0 q3) (lt1 q0 q3)).toInt ≠ 0)) => ?_)
    refine go_iconst (1 : Int32) 204 rfl at_203 rfl ?_
    refine go_goto 208 (by decide) rfl at_204 ?_
    exact go_ireturn at_208 rfl (Or.inr (Or.inl rfl)) rfl rfl (by decide) (by decide) rfl
  · rw [hb]
    refine go_iadd 6 rfl at_5 rfl ?_
    show Go B0 Z a0 h0 _ 0 0 [] 6 #[.val (.long q0), .second, .val (.int p1), .val (.int p2), .val (.int p3), .val (.int p4), .unset, .unset, .unset, .unset, .unset, .unset, .unset, .unset, .unset, .unset, .unset, .unset, .unset, .unset, .unset, .unset, .unset, .unset, .unset, .unset, .unset, .unset, .unset, .unset] [(.int (4 : Int32))]
    refine go_istore #[.val (.long q0), .second, .val (.int p1), .val (.int p2), .val (.int p3), .val (.int p4), .val (.int (4 : Int32)), .unset, .unset, .unset, .unset, .unset, .unset, .unset, .unset, .unset, .unset, .unset, .unset, .unset, .unset, .unset, .unset, .unset, .unset, .unset, .unset, .unset, .unset, .unset] 8 rfl at_6 rfl rfl ?_
    refine go_lloadN 9 rfl at_8 rfl ?_
    refine go_iloadN 10 rfl at_9 rfl ?_
    refine go_i2l 11 rfl at_10 rfl ?_
    refine go_ladd 12 rfl at_11 rfl ?_
    generalize hq1 : (q0 + (p1.toInt64)) = q1
    refine go_lstore #[.val (.long q0), .second, .val (.int p1), .val (.int p2), .val (.int p3), .val (.int p4), .val (.int (4 : Int32)), .val (.long q1), .second, .unset, .unset, .unset, .unset, .unset, .unset, .unset, .unset, .unset, .unset, .unset, .unset, .unset, .unset, .unset, .unset, .unset, .unset, .unset, .unset, .unset] 14 rfl at_12 rfl rfl ?_
    refine go_lload 16 rfl at_14 rfl ?_
    refine go_iloadN 17 rfl at_16 rfl ?_
    refine go_i2l 18 rfl at_17 rfl ?_
    refine go_ladd 19 rfl at_18 rfl ?_
    generalize hq2 : (q1 + (p2.toInt64)) = q2
    refine go_lstore #[.val (.long q0), .second, .val (.int p1), .val (.int p2), .val (.int p3), .val (.int p4), .val (.int (4 : Int32)), .val (.long q1), .second, .val (.long q2), .second, .unset, .unset, .unset, .unset, .unset, .unset, .unset, .unset, .unset, .unset, .unset, .unset, .unset, .unset, .unset, .unset, .unset, .unset, .unset] 21 rfl at_19 rfl rfl ?_
    refine go_lload 23 rfl at_21 rfl ?_
    refine go_iload 25 rfl at_23 rfl ?_
    refine go_i2l 26 rfl at_25 rfl ?_
    refine go_ladd 27 rfl at_26 rfl ?_
    generalize hq3 : (q2 + (p3.toInt64)) = q3
    refine go_lstore #[.val (.long q0), .second, .val (.int p1), .val (.int p2), .val (.int p3), .val (.int p4), .val (.int (4 : Int32)), .val (.long q1), .second, .val (.long q2), .second, .val (.long q3), .second, .unset, .unset, .unset, .unset, .unset, .unset, .unset, .unset, .unset, .unset, .unset, .unset, .unset, .unset, .unset, .unset, .unset] 29 rfl at_27 rfl rfl ?_
    refine go_new 32 rfl at_29 (wd hw 0 rfl) (wd hw 1 rfl) (wd hw 2 rfl) (by decide) (by decide) [("com/example/offboard/offboard/fix/Throttle", "passed", "[J", .null), ("com/example/offboard/offboard/fix/Throttle", "count", "I", (.int (0 : Int32))), ("com/example/offboard/offboard/fix/Throttle", "next", "I", (.int (0 : Int32)))] ⟨⟨Or.inr (wd hw 11 rfl), _, rfl, rfl⟩, ⟨⟨Or.inl (wd hw 18 rfl), _, rfl, rfl⟩, ⟨⟨Or.inl (wd hw 20 rfl), _, rfl, rfl⟩, trivial⟩⟩⟩ (by decide) (fun a7 => ?_)
    show Go B0 Z a0 h0 _ 1 3 [ob a7 "com/example/offboard/offboard/fix/Throttle" [("com/example/offboard/offboard/fix/Throttle", "passed", "[J", .null), ("com/example/offboard/offboard/fix/Throttle", "count", "I", (.int (0 : Int32))), ("com/example/offboard/offboard/fix/Throttle", "next", "I", (.int (0 : Int32)))]] 32 #[.val (.long q0), .second, .val (.int p1), .val (.int p2), .val (.int p3), .val (.int p4), .val (.int (4 : Int32)), .val (.long q1), .second, .val (.long q2), .second, .val (.long q3), .second, .unset, .unset, .unset, .unset, .unset, .unset, .unset, .unset, .unset, .unset, .unset, .unset, .unset, .unset, .unset, .unset, .unset] [(.ref a7)]
    refine go_dup 33 rfl at_32 rfl rfl ?_
    refine go_iload 35 rfl at_33 rfl ?_
    refine go_callI 38 rfl at_35 rfl (wd hw 3 rfl) (wd hw 4 rfl) (wd hw 2 rfl) (wd hw 5 rfl) (by decide) (mt23 Z a0 hw h0 SW a7) (argsL := [(.int (4 : Int32))]) (rest := [(.ref a7)]) rfl (ret := none) (ps := [.int]) (by decide +kernel) rfl rfl 1 rfl (by decide) (by decide) (by decide) (by decide) ?_
    rintro _ _ ⟨a8, rfl, rfl⟩
    show Go B0 Z a0 h0 _ 2 7 [ob a7 "com/example/offboard/offboard/fix/Throttle" [("com/example/offboard/offboard/fix/Throttle", "passed", "[J", (.ref a8)), ("com/example/offboard/offboard/fix/Throttle", "count", "I", (.int (0 : Int32))), ("com/example/offboard/offboard/fix/Throttle", "next", "I", (.int (0 : Int32)))], ar a8 .long [(.long (0 : Int64)), (.long (0 : Int64)), (.long (0 : Int64)), (.long (0 : Int64))]] 38 #[.val (.long q0), .second, .val (.int p1), .val (.int p2), .val (.int p3), .val (.int p4), .val (.int (4 : Int32)), .val (.long q1), .second, .val (.long q2), .second, .val (.long q3), .second, .unset, .unset, .unset, .unset, .unset, .unset, .unset, .unset, .unset, .unset, .unset, .unset, .unset, .unset, .unset, .unset, .unset] [(.ref a7)]
    refine go_astore #[.val (.long q0), .second, .val (.int p1), .val (.int p2), .val (.int p3), .val (.int p4), .val (.int (4 : Int32)), .val (.long q1), .second, .val (.long q2), .second, .val (.long q3), .second, .val (.ref a7), .unset, .unset, .unset, .unset, .unset, .unset, .unset, .unset, .unset, .unset, .unset, .unset, .unset, .unset, .unset, .unset] 40 rfl at_38 rfl rfl rfl ?_
    refine go_aload 42 rfl at_40 rfl rfl ?_
    refine go_lloadN 43 rfl at_42 rfl ?_
    refine go_callV 46 rfl at_43 (wd hw 12 rfl) (wd hw 13 rfl) (wd hw 15 rfl) (wd hw 14 rfl) (wd hw 2 rfl) (wd hw 16 rfl) (by decide) (Mo.exa (i := 0) rfl) (mt24 Z a0 hw h0 SW a7 a8 q0) (argsL := [(.long q0)]) (rest := []) rfl (ps := [.long]) (by decide +kernel) rfl rfl 0 rfl (by decide) (by decide) (by decide) (by decide) ?_
    rintro _ _ ⟨rfl, rfl⟩
    show Go B0 Z a0 h0 _ 2 7 [ob a7 "com/example/offboard/offboard/fix/Throttle" [("com/example/offboard/offboard/fix/Throttle", "passed", "[J", (.ref a8)), ("com/example/offboard/offboard/fix/Throttle", "count", "I", (.int (1 : Int32))), ("com/example/offboard/offboard/fix/Throttle", "next", "I", (.int (1 : Int32)))], ar a8 .long [(.long q0), (.long (0 : Int64)), (.long (0 : Int64)), (.long (0 : Int64))]] 46 #[.val (.long q0), .second, .val (.int p1), .val (.int p2), .val (.int p3), .val (.int p4), .val (.int (4 : Int32)), .val (.long q1), .second, .val (.long q2), .second, .val (.long q3), .second, .val (.ref a7), .unset, .unset, .unset, .unset, .unset, .unset, .unset, .unset, .unset, .unset, .unset, .unset, .unset, .unset, .unset, .unset] [(.long q0)]
    refine go_lstore #[.val (.long q0), .second, .val (.int p1), .val (.int p2), .val (.int p3), .val (.int p4), .val (.int (4 : Int32)), .val (.long q1), .second, .val (.long q2), .second, .val (.long q3), .second, .val (.ref a7), .val (.long q0), .second, .unset, .unset, .unset, .unset, .unset, .unset, .unset, .unset, .unset, .unset, .unset, .unset, .unset, .unset] 48 rfl at_46 rfl rfl ?_
    refine go_aload 50 rfl at_48 rfl rfl ?_
    refine go_lload 52 rfl at_50 rfl ?_
    refine go_callV 55 rfl at_52 (wd hw 12 rfl) (wd hw 13 rfl) (wd hw 15 rfl) (wd hw 14 rfl) (wd hw 2 rfl) (wd hw 16 rfl) (by decide) (Mo.exa (i := 0) rfl) (mt25 Z a0 hw h0 SW a7 a8 q0 q1) (argsL := [(.long q1)]) (rest := []) rfl (ps := [.long]) (by decide +kernel) rfl rfl 0 rfl (by decide) (by decide) (by decide) (by decide) ?_
    rintro _ _ ⟨rfl, rfl⟩
    show Go B0 Z a0 h0 _ 2 7 [ob a7 "com/example/offboard/offboard/fix/Throttle" [("com/example/offboard/offboard/fix/Throttle", "passed", "[J", (.ref a8)), ("com/example/offboard/offboard/fix/Throttle", "count", "I", (.int (2 : Int32))), ("com/example/offboard/offboard/fix/Throttle", "next", "I", (.int (2 : Int32)))], ar a8 .long [(.long q0), (.long q1), (.long (0 : Int64)), (.long (0 : Int64))]] 55 #[.val (.long q0), .second, .val (.int p1), .val (.int p2), .val (.int p3), .val (.int p4), .val (.int (4 : Int32)), .val (.long q1), .second, .val (.long q2), .second, .val (.long q3), .second, .val (.ref a7), .val (.long q0), .second, .unset, .unset, .unset, .unset, .unset, .unset, .unset, .unset, .unset, .unset, .unset, .unset, .unset, .unset] [(.long q1)]
    refine go_lstore #[.val (.long q0), .second, .val (.int p1), .val (.int p2), .val (.int p3), .val (.int p4), .val (.int (4 : Int32)), .val (.long q1), .second, .val (.long q2), .second, .val (.long q3), .second, .val (.ref a7), .val (.long q0), .second, .val (.long q1), .second, .unset, .unset, .unset, .unset, .unset, .unset, .unset, .unset, .unset, .unset, .unset, .unset] 57 rfl at_55 rfl rfl ?_
    refine go_aload 59 rfl at_57 rfl rfl ?_
    refine go_lload 61 rfl at_59 rfl ?_
    refine go_callV 64 rfl at_61 (wd hw 12 rfl) (wd hw 13 rfl) (wd hw 15 rfl) (wd hw 14 rfl) (wd hw 2 rfl) (wd hw 16 rfl) (by decide) (Mo.exa (i := 0) rfl) (mt26 Z a0 hw h0 SW a7 a8 q0 q1 q2) (argsL := [(.long q2)]) (rest := []) rfl (ps := [.long]) (by decide +kernel) rfl rfl 0 rfl (by decide) (by decide) (by decide) (by decide) ?_
    rintro _ _ ⟨rfl, rfl⟩
    show Go B0 Z a0 h0 _ 2 7 [ob a7 "com/example/offboard/offboard/fix/Throttle" [("com/example/offboard/offboard/fix/Throttle", "passed", "[J", (.ref a8)), ("com/example/offboard/offboard/fix/Throttle", "count", "I", (.int (3 : Int32))), ("com/example/offboard/offboard/fix/Throttle", "next", "I", (.int (3 : Int32)))], ar a8 .long [(.long q0), (.long q1), (.long q2), (.long (0 : Int64))]] 64 #[.val (.long q0), .second, .val (.int p1), .val (.int p2), .val (.int p3), .val (.int p4), .val (.int (4 : Int32)), .val (.long q1), .second, .val (.long q2), .second, .val (.long q3), .second, .val (.ref a7), .val (.long q0), .second, .val (.long q1), .second, .unset, .unset, .unset, .unset, .unset, .unset, .unset, .unset, .unset, .unset, .unset, .unset] [(.long q2)]
    refine go_lstore #[.val (.long q0), .second, .val (.int p1), .val (.int p2), .val (.int p3), .val (.int p4), .val (.int (4 : Int32)), .val (.long q1), .second, .val (.long q2), .second, .val (.long q3), .second, .val (.ref a7), .val (.long q0), .second, .val (.long q1), .second, .val (.long q2), .second, .unset, .unset, .unset, .unset, .unset, .unset, .unset, .unset, .unset, .unset] 66 rfl at_64 rfl rfl ?_
    refine go_aload 68 rfl at_66 rfl rfl ?_
    refine go_lload 70 rfl at_68 rfl ?_
    refine go_callV 73 rfl at_70 (wd hw 12 rfl) (wd hw 13 rfl) (wd hw 15 rfl) (wd hw 14 rfl) (wd hw 2 rfl) (wd hw 16 rfl) (by decide) (Mo.exa (i := 0) rfl) (mt27 Z a0 hw h0 SW a7 a8 q0 q1 q2 q3) (argsL := [(.long q3)]) (rest := []) rfl (ps := [.long]) (by decide +kernel) rfl rfl 0 rfl (by decide) (by decide) (by decide) (by decide) ?_
    rintro _ _ ⟨rfl, rfl⟩
    show Go B0 Z a0 h0 _ 2 7 [ob a7 "com/example/offboard/offboard/fix/Throttle" [("com/example/offboard/offboard/fix/Throttle", "passed", "[J", (.ref a8)), ("com/example/offboard/offboard/fix/Throttle", "count", "I", (.int (4 : Int32))), ("com/example/offboard/offboard/fix/Throttle", "next", "I", (.int (0 : Int32)))], ar a8 .long [(.long q0), (.long q1), (.long q2), (.long q3)]] 73 #[.val (.long q0), .second, .val (.int p1), .val (.int p2), .val (.int p3), .val (.int p4), .val (.int (4 : Int32)), .val (.long q1), .second, .val (.long q2), .second, .val (.long q3), .second, .val (.ref a7), .val (.long q0), .second, .val (.long q1), .second, .val (.long q2), .second, .unset, .unset, .unset, .unset, .unset, .unset, .unset, .unset, .unset, .unset] [(.long q3)]
    refine go_lstore #[.val (.long q0), .second, .val (.int p1), .val (.int p2), .val (.int p3), .val (.int p4), .val (.int (4 : Int32)), .val (.long q1), .second, .val (.long q2), .second, .val (.long q3), .second, .val (.ref a7), .val (.long q0), .second, .val (.long q1), .second, .val (.long q2), .second, .val (.long q3), .second, .unset, .unset, .unset, .unset, .unset, .unset, .unset, .unset] 75 rfl at_73 rfl rfl ?_
    refine go_lloadN 76 rfl at_75 rfl ?_
    refine go_lstore #[.val (.long q0), .second, .val (.int p1), .val (.int p2), .val (.int p3), .val (.int p4), .val (.int (4 : Int32)), .val (.long q1), .second, .val (.long q2), .second, .val (.long q3), .second, .val (.ref a7), .val (.long q0), .second, .val (.long q1), .second, .val (.long q2), .second, .val (.long q3), .second, .val (.long q0), .second, .unset, .unset, .unset, .unset, .unset, .unset] 78 rfl at_76 rfl rfl ?_
    refine go_iload 80 rfl at_78 rfl ?_
    refine go_iconst (1 : Int32) 81 rfl at_80 rfl ?_
    refine go_icmp 89 84 rfl (by decide) rfl at_81 rfl (fun (hc81 : (4 : Int) ≤ (1 : Int)) => absurd hc81 (by decide)) (fun (hc81 : ¬ ((4 : Int) ≤ (1 : Int))) => ?_)
    refine go_lload 86 rfl at_84 rfl ?_
    refine go_goto 96 (by decide) rfl at_86 ?_
    refine go_lstore #[.val (.long q0), .second, .val (.int p1), .val (.int p2), .val (.int p3), .val (.int p4), .val (.int (4 : Int32)), .val (.long q1), .second, .val (.long q2), .second, .val (.long q3), .second, .val (.ref a7), .val (.long q0), .second, .val (.long q1), .second, .val (.long q2), .second, .val (.long q3), .second, .val (.long q0), .second, .val (.long q1), .second, .unset, .unset, .unset, .unset] 98 rfl at_96 rfl rfl ?_
    refine go_iload 100 rfl at_98 rfl ?_
    refine go_iconst (2 : Int32) 101 rfl at_100 rfl ?_
    refine go_icmp 109 104 rfl (by decide) rfl at_101 rfl (fun (hc101 : (4 : Int) ≤ (2 : Int)) => absurd hc101 (by decide)) (fun (hc101 : ¬ ((4 : Int) ≤ (2 : Int))) => ?_)
    refine go_lload 106 rfl at_104 rfl ?_
    refine go_goto 127 (by decide) rfl at_106 ?_
    refine go_lstore #[.val (.long q0), .second, .val (.int p1), .val (.int p2), .val (.int p3), .val (.int p4), .val (.int (4 : Int32)), .val (.long q1), .second, .val (.long q2), .second, .val (.long q3), .second, .val (.ref a7), .val (.long q0), .second, .val (.long q1), .second, .val (.long q2), .second, .val (.long q3), .second, .val (.long q0), .second, .val (.long q1), .second, .val (.long q2), .second, .unset, .unset] 129 rfl at_127 rfl rfl ?_
    refine go_iload 131 rfl at_129 rfl ?_
    refine go_iconst (3 : Int32) 132 rfl at_131 rfl ?_
    refine go_icmp 140 135 rfl (by decide) rfl at_132 rfl (fun (hc132 : (4 : Int) ≤ (3 : Int)) => absurd hc132 (by decide)) (fun (hc132 : ¬ ((4 : Int) ≤ (3 : Int))) => ?_)
    refine go_lload 137 rfl at_135 rfl ?_
    refine go_goto 169 (by decide) rfl at_137 ?_
    refine go_lstore #[.val (.long q0), .second, .val (.int p1), .val (.int p2), .val (.int p3), .val (.int p4), .val (.int (4 : Int32)), .val (.long q1), .second, .val (.long q2), .second, .val (.long q3), .second, .val (.ref a7), .val (.long q0), .second, .val (.long q1), .second, .val (.long q2), .second, .val (.long q3), .second, .val (.long q0), .second, .val (.long q1), .second, .val (.long q2), .second, .val (.long q3), .second] 171 rfl at_169 rfl rfl ?_
    refine go_lload 173 rfl at_171 rfl ?_
    refine go_lload 175 rfl at_173 rfl ?_
    refine go_lcmp 176 rfl at_175 rfl ?_
    refine go_if 207 179 rfl (by decide) rfl at_176 rfl (fun (hc176 : (lcmpW q0 q0).toInt ≠ 0) => absurd hc176 (by exact fun q => q (lcmp_self _))) (fun (hc176 : ¬ ((lcmpW q0 q0).toInt ≠ 0)) => ?_)
    refine go_lload 181 rfl at_179 rfl ?_
    refine go_lload 183 rfl at_181 rfl ?_
    refine go_lcmp 184 rfl at_183 rfl ?_
    refine go_if 207 187 rfl (by decide) rfl at_184 rfl (fun (hc184 : (lcmpW q1 q1).toInt ≠ 0) => absurd hc184 (by exact fun q => q (lcmp_self _))) (fun (hc184 : ¬ ((lcmpW q1 q1).toInt ≠ 0)) => ?_)
    refine go_lload 189 rfl at_187 rfl ?_
    refine go_lload 191 rfl at_189 rfl ?_
    refine go_lcmp 192 rfl at_191 rfl ?_
    refine go_if 207 195 rfl (by decide) rfl at_192 rfl (fun (hc192 : (lcmpW q2 q2).toInt ≠ 0) => absurd hc192 (by exact fun q => q (lcmp_self _))) (fun (hc192 : ¬ ((lcmpW q2 q2).toInt ≠ 0)) => ?_)
    refine go_lload 197 rfl at_195 rfl ?_
    refine go_lload 199 rfl at_197 rfl ?_
    refine go_lcmp 200 rfl at_199 rfl ?_
    refine go_if 207 203 rfl (by decide) rfl at_200 rfl (fun (hc200 : (lcmpW q3 q3).toInt ≠ 0) => absurd hc200 (by exact fun q => q (lcmp_self _))) (fun (hc200 : ¬ ((lcmpW q3 q3).toInt ≠ 0)) => ?_)
    refine go_iconst (1 : Int32) 204 rfl at_203 rfl ?_
    refine go_goto 208 (by decide) rfl at_204 ?_
    exact go_ireturn at_208 rfl (Or.inr (Or.inl rfl)) rfl rfl (by decide) (by decide) rfl
set_option maxRecDepth 65536 in
set_option maxHeartbeats 4000000 in
theorem comes_1 {Post : Tables → Env → Array Value → State → Outcome → State → Prop} (hpost : ∀ tb e args s v u, (limb_1_1.after args s (.returned v) u = true ∧ limb_1_2.after args s (.returned v) u = true ∧ True) → FrameEnd s (.returned v) u (Jvm.fieldLocs frame_1_writes args s ++ Jvm.arrayLocs frame_1_arrays args s ++ Jvm.staticLocs frame_1_statics s) 16 128 → Post tb e args s (.returned v) u) :
    ArmFor flags0 classFile x code maxLocals ret World_1 tables_1 room_1 Calls_1 rest_1 Pre_1 Post := by
  intro l hfl _ _ p e ha hc hk s m args below hf hA hF happ hP
  obtain ⟨hcalls, hrest, hpre⟩ := hP
  obtain ⟨-, -, -, hnamed, -, -, -, hat⟩ := (Spec.applies_iff hf).mp happ
  obtain ⟨hg, hn⟩ := and_e (Cond.before_iff.mp (show (Jvm.Cond.and given_1 narrow_1).before args s = true from hpre))
  obtain ⟨g0, r0⟩ := and_e hg
  obtain ⟨g1, r1⟩ := and_e r0
  obtain ⟨g2, r2⟩ := and_e r1
  obtain ⟨g3, r3⟩ := and_e r2
  obtain ⟨g4, r4⟩ := and_e r3
  obtain ⟨w0, w1, w2, w3, w4, rfl⟩ : ∃ w0 w1 w2 w3 w4 : Value, args = #[w0, w1, w2, w3, w4] := by
    have hs : args.size = 5 := by simpa [Cond.value, given_1] using g0
    obtain ⟨L⟩ := args
    match L, hs with
    | [w0, w1, w2, w3, w4], _ => exact ⟨w0, w1, w2, w3, w4, rfl⟩
  have hw := fun d (hd : d ∈ tables_1) => atoms_spec (ws := Jvm.Cond.code x code maxLocals ret :: tables_1) hat d (List.mem_cons_of_mem _ hd)
  have hfit : Fit s := fun {y c} hc i hi => by
    obtain ⟨ha, rfl⟩ := Array.getElem?_eq_some_iff.mp hc
    have q := List.all_eq_true.mp ((Array.all_eq_true_iff_forall_mem.mp hF) _ (Array.getElem_mem ha)) i (List.mem_range.mpr hi)
    simpa [Array.getElem?_eq_getElem hi] using q
  obtain ⟨i0, e0⟩ := isL_v g1
  obtain rfl : w0 = (.long i0) := Option.some.inj e0
  obtain ⟨i1, e1⟩ := is_v g2
  obtain rfl : w1 = (.int i1) := Option.some.inj e1
  obtain ⟨i2, e2⟩ := is_v g3
  obtain rfl : w2 = (.int i2) := Option.some.inj e2
  obtain ⟨i3, e3⟩ := is_v g4
  obtain rfl : w3 = (.int i3) := Option.some.inj e3
  obtain ⟨i4, e4⟩ := is_v r4
  obtain rfl : w4 = (.int i4) := Option.some.inj e4
  have n0 := hn
  have SW := Sta.start (eqJ_v n0) (Or.inr ⟨(wd hw 2 rfl), (wd hw 22 rfl)⟩)
  obtain ⟨n, o, q1, q2, q3, v, L, rfl, ⟨N, ds', M', -, rfl⟩, hq⟩ := law_met s _ hw s.heap i0 i1 i2 i3 i4 SW l tables_1 s.heap (Mo.start s _ s.heap) p e ha hc hk s m _ below hf ((Spec.applies_iff_loose hf).mp happ).1 ⟨rfl, State.Warmed39.refl s, rfl⟩ trivial
  refine ⟨n, _, q1, q2, q3, hpost _ _ _ _ _ _ ⟨Cond.after_iff.mpr rfl, Cond.after_iff.mpr (eq_i res_at (Term.int_eval (1)) rfl), trivial⟩ ⟨hq.1, hq.2.1, (hq.2.2.sift fun y hy => Or.inr (N y hy)).mono (by decide) (by decide)⟩⟩
theorem main_1_1 : Claimed_1_1 := comes_1 fun _ _ _ _ _ _ h hF => ⟨h.1, hF⟩
theorem main_1_2 : Claimed_1_2 := comes_1 fun _ _ _ _ _ _ h hF => ⟨h.2.1, hF⟩

end Jvm.Pilot.@@N@@
namespace Jvm.Pilot.@@N@@
open Jvm Jvm.ClassFile Sem Op Lib Jvm.Free Jvm.Stand Jvm.Pilot.@@N@@.Jvm.D
/-! MADE BY PROGRAM (witnessworld.py) out of the Statement's table words and the real class files: 12 classes; the members and pool entries that the words name. The judged class is class 1, her method 1. -/
namespace start1
open Jvm.ClassFile
def u (s : String) : CpInfo := .utf8 (stringToUtf16 s)
/-- a pool by its gaps: so many unusable entries, then the entry; so many at the end -/
def gap : Nat → List CpInfo → List CpInfo
  | 0, r => r
  | n + 1, r => .unusable :: gap n r
def poolList (es : List (Nat × CpInfo)) (last : Nat) : List CpInfo := es.foldr (fun e r => gap e.1 (e.2 :: r)) (gap last [])
def pool (es : List (Nat × CpInfo)) (last : Nat) : Array CpInfo := ⟨poolList es last⟩
def fileOf (pool : Array CpInfo) (this : Nat) (attrs : Array Attribute := #[]) (ms : Array MethodInfo := #[]) (fl : Nat := 33) (sup : Nat := 0) (ifs : Array Nat := #[]) (fds : Array FieldInfo := #[]) : ClassFile where
  minorVersion := 0
  majorVersion := 65
  constantPool := pool
  accessFlags := fl
  thisClass := this
  superClass := sup
  interfaces := ifs
  fields := fds
  methods := ms
  attributes := attrs
def plain (name : String) (sup : Option ClassId) : Class where
  name := name
  kind := .ordinary
  loader := none
  accessFlags := 33
  super := sup
  interfaces := #[]
  cf := none
  fields := #[]
  methods := #[]
  instanceTypes := #[]
  staticTypes := #[]
  resolved := #[]
  callSites := []
  init := .initialized
  statics := none
  mirror := none

def pool0 : Array CpInfo := pool [(5, u "<init>"), (0, u "()V"), (1, .class_ 10), (1, u "java/lang/Object")] 113

def k0c0 : Code := { maxStack := 0, maxLocals := 1, code := object_method_1_code, exceptionTable := #[], attributes := #[] }
def k0m0 : Method := { name := "<init>", desc := "()V", sig := { parameters := [], returnType := none }, accessFlags := 1, code := some k0c0 }
/-- java/lang/Object -/
def k0 : Class := { plain "java/lang/Object" none with
  accessFlags := 33
  interfaces := #[]
  cf := some (fileOf pool0 8 #[] #[{ accessFlags := 1, nameIndex := 5, descriptorIndex := 6, attributes := #[] }] 33 0 #[] #[])
  fields := #[]
  methods := #[k0m0]
  instanceTypes := #[]
  staticTypes := #[]
  resolved := Array.replicate 124 none
  statics := none }

def pool1 : Array CpInfo := pool [(2, .class_ 4), (1, u "java/lang/Object"), (0, u "<init>"), (0, u "()V"), (0, .class_ 8), (0, u "com/example/offboard/offboard/fix/Throttle"), (0, .methodref 7 10), (0, .nameAndType 5 11), (0, u "(I)V"), (0, .methodref 7 13), (0, .nameAndType 14 15), (0, u "pass"), (0, u "(J)J"), (0, .methodref 17 18), (0, .class_ 19), (0, .nameAndType 20 21), (0, u "com/example/offboard/offboard/fix/ThrottlePassPinLaw"), (0, u "later"), (0, u "(JJ)J"), (0, .long 1000000000), (1, .methodref 25 26), (0, .class_ 27), (0, .nameAndType 28 21), (0, u "java/lang/Math"), (0, u "max"), (2, u "law"), (0, u "(JIIII)Z")] 3

def k1m0 : Method := { name := "<init>", desc := "()V", sig := { parameters := [], returnType := none }, accessFlags := 1, code := none }
def k1c1 : Code := { maxStack := 4, maxLocals := 30, code := code, exceptionTable := #[], attributes := #[] }
def k1m1 : Method := { name := "law", desc := "(JIIII)Z", sig := { parameters := [.long, .int, .int, .int, .int], returnType := some .boolean }, accessFlags := 9, code := some k1c1 }
def k1c2 : Code := { maxStack := 8, maxLocals := 4, code := method_3_code, exceptionTable := #[], attributes := #[] }
def k1m2 : Method := { name := "later", desc := "(JJ)J", sig := { parameters := [.long, .long], returnType := some .long }, accessFlags := 10, code := some k1c2 }
/-- com/example/offboard/offboard/fix/ThrottlePassPinLaw -/
def k1 : Class := { plain "com/example/offboard/offboard/fix/ThrottlePassPinLaw" (some 0) with
  accessFlags := 49
  interfaces := #[]
  cf := some (fileOf pool1 17 #[] #[{ accessFlags := 1, nameIndex := 5, descriptorIndex := 6, attributes := #[] }, { accessFlags := 9, nameIndex := 31, descriptorIndex := 32, attributes := #[] }, { accessFlags := 10, nameIndex := 20, descriptorIndex := 21, attributes := #[] }] 49 2 #[] #[])
  fields := #[]
  methods := #[k1m0, k1m1, k1m2]
  instanceTypes := #[]
  staticTypes := #[]
  resolved := Array.replicate 36 none
  statics := none }

def pool2 : Array CpInfo := pool [(1, .methodref 2 3), (0, .class_ 4), (0, .nameAndType 5 6), (0, u "java/lang/Object"), (0, u "<init>"), (0, u "()V"), (9, .fieldref 17 18), (0, .class_ 19), (0, .nameAndType 20 21), (0, u "com/example/offboard/offboard/fix/Throttle"), (0, u "passed"), (0, u "[J"), (0, .fieldref 17 23), (0, .nameAndType 24 25), (0, u "count"), (0, u "I"), (0, .fieldref 17 27), (0, .nameAndType 28 25), (0, u "next"), (0, .fieldref 17 30), (0, .nameAndType 31 32), (0, u "WINDOW_NANOS"), (0, u "J"), (9, u "(J)J"), (0, u "(I)V"), (3, u "pass")] 18

def k2c0 : Code := { maxStack := 3, maxLocals := 2, code := prog_83_method_1_code, exceptionTable := #[], attributes := #[] }
def k2m0 : Method := { name := "<init>", desc := "(I)V", sig := { parameters := [.int], returnType := none }, accessFlags := 0, code := some k2c0 }
def k2c1 : Code := { maxStack := 4, maxLocals := 5, code := prog_83_method_2_code, exceptionTable := #[], attributes := #[] }
def k2m1 : Method := { name := "pass", desc := "(J)J", sig := { parameters := [.long], returnType := some .long }, accessFlags := 0, code := some k2c1 }
/-- com/example/offboard/offboard/fix/Throttle -/
def k2 : Class := { plain "com/example/offboard/offboard/fix/Throttle" (some 0) with
  accessFlags := 48
  interfaces := #[]
  cf := some (fileOf pool2 17 #[] #[{ accessFlags := 0, nameIndex := 5, descriptorIndex := 43, attributes := #[] }, { accessFlags := 0, nameIndex := 47, descriptorIndex := 42, attributes := #[] }] 48 2 #[] #[{ accessFlags := 26, nameIndex := 31, descriptorIndex := 32, attributes := #[] }, { accessFlags := 18, nameIndex := 20, descriptorIndex := 21, attributes := #[] }, { accessFlags := 2, nameIndex := 28, descriptorIndex := 25, attributes := #[] }, { accessFlags := 2, nameIndex := 24, descriptorIndex := 25, attributes := #[] }])
  fields := #[{ name := "WINDOW_NANOS", type := .long, accessFlags := 26, slot := 0, constantValue := 0 }, { name := "passed", type := (.array .long), accessFlags := 18, slot := 0, constantValue := 0 }, { name := "next", type := .int, accessFlags := 2, slot := 1, constantValue := 0 }, { name := "count", type := .int, accessFlags := 2, slot := 2, constantValue := 0 }]
  methods := #[k2m0, k2m1]
  instanceTypes := #[(.array .long), .int, .int]
  staticTypes := #[.long]
  resolved := Array.replicate 66 none
  statics := some 0 }

def pool3 : Array CpInfo := pool [(1, .class_ 2), (0, u "java/lang/Math"), (1, .class_ 6), (1, u "java/lang/Object"), (0, u "<init>"), (0, u "()V"), (89, .class_ 100), (1, u "java/lang/Math$RandomNumberGeneratorHolder"), (20, u "(JJ)J"), (50, u "negativeZeroFloatBits"), (0, u "J"), (2, u "negativeZeroDoubleBits"), (21, u "max"), (46, u "$assertionsDisabled"), (0, u "Z"), (91, u "twoToTheDoubleScaleDown"), (0, u "D"), (4, u "twoToTheDoubleScaleUp"), (9, u "E"), (3, u "PI"), (2, u "TAU"), (2, u "DEGREES_TO_RADIANS"), (0, u "RADIANS_TO_DEGREES")] 94

def k3m0 : Method := { name := "<init>", desc := "()V", sig := { parameters := [], returnType := none }, accessFlags := 2, code := none }
def k3c1 : Code := { maxStack := 4, maxLocals := 4, code := jdk_29_method_66_code, exceptionTable := #[], attributes := #[] }
def k3m1 : Method := { name := "max", desc := "(JJ)J", sig := { parameters := [.long, .long], returnType := some .long }, accessFlags := 9, code := some k3c1 }
/-- java/lang/Math -/
def k3 : Class := { plain "java/lang/Math" (some 0) with
  accessFlags := 49
  interfaces := #[]
  cf := some (fileOf pool3 1 #[.nestMembers #[98]] #[{ accessFlags := 2, nameIndex := 7, descriptorIndex := 8, attributes := #[] }, { accessFlags := 9, nameIndex := 198, descriptorIndex := 121, attributes := #[] }] 49 4 #[] #[{ accessFlags := 25, nameIndex := 354, descriptorIndex := 339, attributes := #[] }, { accessFlags := 25, nameIndex := 358, descriptorIndex := 339, attributes := #[] }, { accessFlags := 25, nameIndex := 361, descriptorIndex := 339, attributes := #[] }, { accessFlags := 26, nameIndex := 364, descriptorIndex := 339, attributes := #[] }, { accessFlags := 26, nameIndex := 365, descriptorIndex := 339, attributes := #[] }, { accessFlags := 26, nameIndex := 172, descriptorIndex := 173, attributes := #[] }, { accessFlags := 26, nameIndex := 176, descriptorIndex := 173, attributes := #[] }, { accessFlags := 8, nameIndex := 344, descriptorIndex := 339, attributes := #[] }, { accessFlags := 8, nameIndex := 338, descriptorIndex := 339, attributes := #[] }, { accessFlags := 4120, nameIndex := 245, descriptorIndex := 246, attributes := #[] }])
  fields := #[{ name := "E", type := .double, accessFlags := 25, slot := 0, constantValue := 0 }, { name := "PI", type := .double, accessFlags := 25, slot := 1, constantValue := 0 }, { name := "TAU", type := .double, accessFlags := 25, slot := 2, constantValue := 0 }, { name := "DEGREES_TO_RADIANS", type := .double, accessFlags := 26, slot := 3, constantValue := 0 }, { name := "RADIANS_TO_DEGREES", type := .double, accessFlags := 26, slot := 4, constantValue := 0 }, { name := "negativeZeroFloatBits", type := .long, accessFlags := 26, slot := 5, constantValue := 0 }, { name := "negativeZeroDoubleBits", type := .long, accessFlags := 26, slot := 6, constantValue := 0 }, { name := "twoToTheDoubleScaleUp", type := .double, accessFlags := 8, slot := 7, constantValue := 0 }, { name := "twoToTheDoubleScaleDown", type := .double, accessFlags := 8, slot := 8, constantValue := 0 }, { name := "$assertionsDisabled", type := .boolean, accessFlags := 4120, slot := 9, constantValue := 0 }]
  methods := #[k3m0, k3m1]
  instanceTypes := #[]
  staticTypes := #[.double, .double, .double, .double, .double, .long, .long, .double, .double, .boolean]
  resolved := Array.replicate 460 none
  statics := none }

def pool4 : Array CpInfo := pool [(1, u "java/lang/Cloneable"), (0, .class_ 1), (0, u "java/lang/Object"), (0, .class_ 3)] 3

/-- java/lang/Cloneable -/
def k4 : Class := { plain "java/lang/Cloneable" (some 0) with
  accessFlags := 1537
  interfaces := #[]
  cf := some (fileOf pool4 2 #[] #[] 1537 4 #[] #[])
  fields := #[]
  methods := #[]
  instanceTypes := #[]
  staticTypes := #[]
  resolved := Array.replicate 8 none
  statics := none }

def pool5 : Array CpInfo := pool [(1, u "java/io/Serializable"), (0, .class_ 1), (0, u "java/lang/Object"), (0, .class_ 3)] 3

/-- java/io/Serializable -/
def k5 : Class := { plain "java/io/Serializable" (some 0) with
  accessFlags := 1537
  interfaces := #[]
  cf := some (fileOf pool5 2 #[] #[] 1537 4 #[] #[])
  fields := #[]
  methods := #[]
  instanceTypes := #[]
  staticTypes := #[]
  resolved := Array.replicate 8 none
  statics := none }

/-- the primitive byte -/
def k6 : Class := { plain "byte" none with kind := .primitive 'B', accessFlags := 0x411 }
/-- [B -/
def k7 : Class := { plain "[B" (some 0) with kind := .array 6 .byte, interfaces := #[4, 5], accessFlags := 1041 }

/-- the primitive int -/
def k8 : Class := { plain "int" none with kind := .primitive 'I', accessFlags := 0x411 }
/-- [I -/
def k9 : Class := { plain "[I" (some 0) with kind := .array 8 .int, interfaces := #[4, 5], accessFlags := 1041 }

/-- the primitive long -/
def k10 : Class := { plain "long" none with kind := .primitive 'J', accessFlags := 0x411 }
/-- [J -/
def k11 : Class := { plain "[J" (some 0) with kind := .array 10 .long, interfaces := #[4, 5], accessFlags := 1041 }

def heap : Heap := #[{ cls := 2, slots := #[.long 1000000000], vm := .statics 2 }]
def classes : Array Class := #[k0, k1, k2, k3, k4, k5, k6, k7, k8, k9, k10, k11]
def interned : List (Array UInt16 × Addr) := []
def slotsUsed : Nat := 1
def theMethod : MethodId := ⟨1, 1⟩
def args0 : Array Value := #[.long 5, .int 1, .int 2, .int 3, .int 2]
def aboutOver (below : List Frame) : State where
  vm := { classes := classes, interned := interned.toArray }
  heap := heap
  slotsUsed := slotsUsed
  threads := #[{ frames := .invoking theMethod args0 :: below }]
def below0 : List Frame := [.native { method := ⟨0, 0⟩, args := #[] }]
def about1 : State := aboutOver below0
def p0 : Program := .bare "" "" ""
def e0 : Env := launch0.env 0 0 0
theorem w_frames : about1.frames = Frame.invoking theMethod args0 :: below0 := rfl
set_option maxRecDepth 65536 in
theorem w_args : argsFit about1.vm theMethod args0 = true := by decide +kernel
set_option maxRecDepth 65536 in
theorem w_heap : heapFits about1 = true := by decide +kernel
set_option maxRecDepth 65536 in
theorem w_runnable : about1.curStatus? = some .runnable := by decide +kernel
set_option maxRecDepth 65536 in
theorem w_alone : about1.alone = true := by decide +kernel
set_option maxRecDepth 65536 in
theorem w_named : about1.methodNamed? x = some theMethod := by decide +kernel
set_option maxRecDepth 65536 in
theorem w_hears : about1.hears theMethod below0 = true := by decide +kernel
set_option maxRecDepth 65536 in
theorem w_ripe : about1.ripe theMethod args0 below0 = true := by decide +kernel
theorem w_running : about1.status = .running := rfl
set_option maxRecDepth 65536 in
theorem w_room : about1.hasRoom e0.platform room_1 = true :=
  launch0.hasRoom_least _ room_1 (by decide +kernel) (by decide +kernel) (by decide +kernel) (by decide +kernel) (by decide +kernel) (by decide +kernel)
theorem allAtoms_all (ts : List Jvm.Cond) (a : Array Jvm.Value) (st : Jvm.State) : (allAtoms ts).before a st = ts.all (fun c => c.before a st) := by
  induction ts with
  | nil => rfl
  | cons c t ih =>
    show (Jvm.Cond.and c (allAtoms t)).before a st = _
    rw [Jvm.Cond.before_and, ih, List.all_cons]
def words1 : List Jvm.Cond := Jvm.Cond.code x code maxLocals ret :: tables_1
/-- a 'code' word, met by the world's own term for the bytes: nothing is compared byte by byte -/
theorem code_word {y : MethodName} {bytes : ByteArray} {mx : Nat} {rt : Option FieldType} {a : Array Value} {s : State} {m : MethodId} {meth : Method} {c : Code} (h1 : s.methodNamed? y = some m) (h2 : s.vm.method? m = some meth) (h3 : meth.code = some c) (h4 : c.code = bytes)
    (h5 : (c.maxLocals == mx && c.exceptionTable.isEmpty && decide (c.maxStack ≤ mostOperands) && decide (meth.sig.returnType = rt) && !meth.locks && decide (parseMethodDescriptor y.desc = some meth.sig)) = true) : (Jvm.Cond.code y bytes mx rt).before a s = true := by
  simp only [Bool.and_eq_true, beq_iff_eq, Bool.not_eq_true', decide_eq_true_eq] at h5
  obtain ⟨⟨⟨⟨⟨g1, g2⟩, g3⟩, g4⟩, g5⟩, g6⟩ := h5
  simp [Cond.before, Cond.holds, Cond.value, h1, h2, h3, h4, g1, g2, g3, g4, g5, g6]
def isCode : Jvm.Cond → Bool
  | .code _ _ _ _ => true
  | _ => false
theorem all_split {L : List Jvm.Cond} {P : Jvm.Cond → Bool} (h1 : L.all (fun c => isCode c || P c) = true) (h2 : ∀ c ∈ L.filter isCode, P c = true) : L.all P = true := by
  refine List.all_eq_true.mpr fun c hc => ?_
  have h := List.all_eq_true.mp h1 c hc
  rcases Bool.eq_false_or_eq_true (isCode c) with hi | hi
  · exact h2 c (List.mem_filter.mpr ⟨hc, hi⟩)
  · simpa [hi] using h
set_option maxRecDepth 65536 in
theorem w_c0 : (Jvm.Cond.code x code maxLocals ret).before args0 about1 = true := code_word (m := ⟨1, 1⟩) (meth := k1m1) (c := k1c1) (by decide +kernel) rfl rfl rfl (by decide +kernel)
set_option maxRecDepth 65536 in
theorem w_c1 : (Jvm.Cond.code ({ cls := "com/example/offboard/offboard/fix/Throttle", name := "<init>", desc := "(I)V" } : Jvm.MethodName) prog_83_method_1_code (2 : Nat) (Option.none : Option Jvm.ClassFile.FieldType)).before args0 about1 = true := code_word (m := ⟨2, 0⟩) (meth := k2m0) (c := k2c0) (by decide +kernel) rfl rfl rfl (by decide +kernel)
set_option maxRecDepth 65536 in
theorem w_c2 : (Jvm.Cond.code ({ cls := "java/lang/Object", name := "<init>", desc := "()V" } : Jvm.MethodName) object_method_1_code (1 : Nat) (Option.none : Option Jvm.ClassFile.FieldType)).before args0 about1 = true := code_word (m := ⟨0, 0⟩) (meth := k0m0) (c := k0c0) (by decide +kernel) rfl rfl rfl (by decide +kernel)
set_option maxRecDepth 65536 in
theorem w_c3 : (Jvm.Cond.code ({ cls := "com/example/offboard/offboard/fix/Throttle", name := "pass", desc := "(J)J" } : Jvm.MethodName) prog_83_method_2_code (5 : Nat) (Option.some Jvm.ClassFile.FieldType.long)).before args0 about1 = true := code_word (m := ⟨2, 1⟩) (meth := k2m1) (c := k2c1) (by decide +kernel) rfl rfl rfl (by decide +kernel)
set_option maxRecDepth 65536 in
theorem w_c4 : (Jvm.Cond.code ({ cls := "com/example/offboard/offboard/fix/ThrottlePassPinLaw", name := "later", desc := "(JJ)J" } : Jvm.MethodName) method_3_code (4 : Nat) (Option.some Jvm.ClassFile.FieldType.long)).before args0 about1 = true := code_word (m := ⟨1, 2⟩) (meth := k1m2) (c := k1c2) (by decide +kernel) rfl rfl rfl (by decide +kernel)
set_option maxRecDepth 65536 in
theorem w_c5 : (Jvm.Cond.code ({ cls := "java/lang/Math", name := "max", desc := "(JJ)J" } : Jvm.MethodName) jdk_29_method_66_code (4 : Nat) (Option.some Jvm.ClassFile.FieldType.long)).before args0 about1 = true := code_word (m := ⟨3, 1⟩) (meth := k3m1) (c := k3c1) (by decide +kernel) rfl rfl rfl (by decide +kernel)
def codes1 : List Jvm.Cond := [Jvm.Cond.code x code maxLocals ret, Jvm.Cond.code ({ cls := "com/example/offboard/offboard/fix/Throttle", name := "<init>", desc := "(I)V" } : Jvm.MethodName) prog_83_method_1_code (2 : Nat) (Option.none : Option Jvm.ClassFile.FieldType), Jvm.Cond.code ({ cls := "java/lang/Object", name := "<init>", desc := "()V" } : Jvm.MethodName) object_method_1_code (1 : Nat) (Option.none : Option Jvm.ClassFile.FieldType), Jvm.Cond.code ({ cls := "com/example/offboard/offboard/fix/Throttle", name := "pass", desc := "(J)J" } : Jvm.MethodName) prog_83_method_2_code (5 : Nat) (Option.some Jvm.ClassFile.FieldType.long), Jvm.Cond.code ({ cls := "com/example/offboard/offboard/fix/ThrottlePassPinLaw", name := "later", desc := "(JJ)J" } : Jvm.MethodName) method_3_code (4 : Nat) (Option.some Jvm.ClassFile.FieldType.long), Jvm.Cond.code ({ cls := "java/lang/Math", name := "max", desc := "(JJ)J" } : Jvm.MethodName) jdk_29_method_66_code (4 : Nat) (Option.some Jvm.ClassFile.FieldType.long)]
set_option maxRecDepth 65536 in
theorem codes_eq : words1.filter isCode = codes1 := rfl
theorem w_codes : ∀ c ∈ words1.filter isCode, c.before args0 about1 = true := by
  rw [codes_eq]
  intro c hc
  simp only [codes1, List.mem_cons, List.not_mem_nil, or_false] at hc
  rcases hc with rfl | rfl | rfl | rfl | rfl | rfl
  · exact w_c0
  · exact w_c1
  · exact w_c2
  · exact w_c3
  · exact w_c4
  · exact w_c5
set_option maxRecDepth 65536 in
theorem w_t1 : (words1.take 24).all (fun c => isCode c || c.before args0 about1) = true := by decide +kernel
set_option maxRecDepth 65536 in
theorem w_t2 : (words1.drop 24).all (fun c => isCode c || c.before args0 about1) = true := by decide +kernel
theorem w_tables : (allAtoms (Jvm.Cond.code x code maxLocals ret :: tables_1)).before args0 about1 = true := by
  rw [allAtoms_all]
  show words1.all (fun c => c.before args0 about1) = true
  refine all_split ?_ w_codes
  rw [← List.take_append_drop 24 words1, List.all_append, w_t1, w_t2]
  rfl
set_option maxRecDepth 65536 in
theorem w_case : (Jvm.Cond.and given_1 narrow_1).before args0 about1 = true := by decide +kernel
theorem w_applies : (headSpec (Jvm.Cond.code x code maxLocals ret :: tables_1) room_1).applies x e0.platform about1 = true :=
  (Spec.applies_iff w_frames).mpr ⟨w_running, w_runnable, w_alone, w_named, w_hears, w_ripe, w_room, w_tables⟩
theorem atStart : AtStart classFile x code maxLocals ret World_1 tables_1 room_1 Calls_1 rest_1 Pre_1 launch0 p0 e0 about1 theMethod args0 below0 :=
  ⟨lists_1, trivial, launch0.admits_env _ _ _, launch0.least_env, fairChoices_fair.cas, fairChoices_fair.clock, w_frames, w_args, w_heap, w_applies, trivial, trivial, w_case⟩
end start1
theorem witness_1 : WitnessClaimed_1 := ⟨start1.p0, start1.e0, start1.about1, start1.theMethod, start1.args0, start1.below0, start1.atStart⟩
end Jvm.Pilot.@@N@@
