/-
  spec.XLocals: the local names of an element's elements.
  spec.XFirst: the first element of a name, in any letters; spec.XTextOf of any element.
  FnXNames: rows of strings, and a root's name (plain and small).
  NodeDecoder.GetElement: the first element of a name, in any letters, or an error.
  NodeDecoder.Value: the text that stands in an element alone, or nothing; else an error.
-/
import Derived.Test.YtlljphipglgjiaaGreatDoorXmNew
import Derived.Test.YtlljphipglgjiaaGreatDoorXmRoot
import Derived.Test.YtlljphipglgjiaaGreatDoorXmNd
import Derived.Deep.RegionHeld3
namespace Go.Proofs.YtlljphipglgjiaaGreatDoor
open Go.RowKit Go.Lib

theorem ElM.inv2 {TA TE : TypeId} {w : World} {D : Nat → Prop} {av kv : Value} {e : XEl} (h : ElM TA TE w D av kv e) : ∃ ks : List (XEl × Value × Value), e.kids = ks.map (·.1) ∧ KidsM TA TE w D kv ks := by
  induction h with
  | mk D n t l ks av kv h1 h2 h3 h4 h5 _ => exact ⟨ks, rfl, h3, h4, h5⟩
theorem kid_cell {w : World} {D : Nat → Prop} {kv : Value} {ks : List (XEl × Value × Value)} (h : KidsM 49 25 w D kv ks) (k : Nat) (hk : k < ks.length) : ∃ g c, kv = .slice (some ⟨g, 0, none⟩) ks.length c ∧ w.cell? ⟨g, k * 4, none⟩ = some (.string (bst (ks[k]).1.name)) ∧ g < w.heap.size := by
  obtain ⟨⟨h1, ⟨_, h2⟩ | ⟨g, cap, cur, rfl, _, hg, hl, hm, hsz, ht⟩⟩, _, _⟩ := h
  · omega
  · have hc : w.cell? ⟨g, k * 4 + 0, none⟩ = (kidCells ks[k])[0]? := by
      rw [cell_of_row w g _ cur 25 (0, 0) hg, ← flatN_get 4 kidCells (fun _ => rfl) ks k 0 hk (by decide), ← ht, List.getElem?_take_of_lt (by omega), Array.getElem?_toList]
    exact ⟨g, cap, rfl, hc, World.block_lt_of_cell? w _ hc⟩

end Go.Proofs.YtlljphipglgjiaaGreatDoor

namespace Go.Proofs.YtlljphipglgjiaaGreatDoor
open Go.RowKit Go.Lib

theorem kid_cells {w : World} {D : Nat → Prop} {kv : Value} {ks : List (XEl × Value × Value)} (h : KidsM 49 25 w D kv ks) (k : Nat) (hk : k < ks.length) :
    ∃ g c, kv = .slice (some ⟨g, 0, none⟩) ks.length c ∧ g < w.heap.size ∧ ElM 49 25 w D ks[k].2.1 ks[k].2.2 ks[k].1 ∧ w.cell? ⟨g, k * 4, none⟩ = some (.string (bst (ks[k]).1.name)) ∧ w.cell? ⟨g, k * 4 + 1, none⟩ = some (ks[k]).2.1 ∧ w.cell? ⟨g, k * 4 + 2, none⟩ = some (.string (bst (ks[k]).1.text)) ∧ w.cell? ⟨g, k * 4 + 3, none⟩ = some (ks[k]).2.2 := by
  obtain ⟨⟨h1, ⟨_, h2⟩ | ⟨g, cap, cur, rfl, _, hg, hl, hm, hsz, ht⟩⟩, _, h5⟩ := h
  · omega
  · have hc : ∀ j, j < 4 → w.cell? ⟨g, k * 4 + j, none⟩ = (kidCells ks[k])[j]? := fun j hj => by
      rw [cell_of_row w g _ cur 25 (0, 0) hg, ← flatN_get 4 kidCells (fun _ => rfl) ks k j hk hj, ← ht, List.getElem?_take_of_lt (by omega), Array.getElem?_toList]
    have h0 := hc 0 (by decide)
    exact ⟨g, cap, rfl, World.block_lt_of_cell? w _ h0, (h5 k hk).mono fun x hx => hx.1, h0, hc 1 (by decide), hc 2 (by decide), hc 3 (by decide)⟩

end Go.Proofs.YtlljphipglgjiaaGreatDoor

namespace Go.Proofs.YtlljphipglgjiaaGreatDoor
open Go.RowKit Go.Lib

theorem cont_names {l nm : List UInt8} {ks : List XEl} {r : List UInt8} (h : Cont l nm ks r) : r.length < l.length ∧ (∀ k ∈ ks, k.name.length ≤ l.length + 1) ∧ ks.length ≤ l.length := by
  induction h with
  | done nm b r _ _ => exact ⟨by simp; omega, (fun k hk => by cases hk), by simp⟩
  | text c l nm v t ks r hc htp hg hv _ ih =>
    obtain ⟨a, ha⟩ := txp_suffix htp
    have hne : a ≠ [] := by
      rintro rfl
      rw [List.nil_append] at ha
      injection ha with e1
      exact hc e1
    have hlt := List.length_pos_iff.2 hne
    have hl := congrArg List.length ha
    rw [List.length_append] at hl
    obtain ⟨i1, i2, i3⟩ := ih
    refine ⟨by omega, fun k hk => ?_, by rw [List.length_cons]; omega⟩
    rcases List.mem_cons.1 hk with rfl | hk
    · exact Nat.zero_le _
    · have := i2 k hk; omega
  | com c t nm ks r hc _ ih =>
    obtain ⟨i1, i2, i3⟩ := ih
    simp only [List.length_cons, List.length_append]
    refine ⟨by omega, fun k hk => ?_, by omega⟩
    rcases List.mem_cons.1 hk with rfl | hk
    · show 1 ≤ _; omega
    · have := i2 k hk; omega
  | empty n2 t nm t2 av ks r hN hA _ ih =>
    obtain ⟨a, rfl, hal⟩ := attrs_suffix hA
    obtain ⟨i1, i2, i3⟩ := ih
    simp only [List.length_cons, List.length_append]
    refine ⟨by omega, fun k hk => ?_, by omega⟩
    rcases List.mem_cons.1 hk with rfl | hk
    · show n2.length ≤ _; omega
    · have := i2 k hk; omega
  | elem n2 t nm t2 t3 av k2 ks r hN hA _ _ ih1 ih2 =>
    obtain ⟨a, rfl, hal⟩ := attrs_suffix hA
    obtain ⟨i1, i2, i3⟩ := ih1
    obtain ⟨j1, j2, j3⟩ := ih2
    simp only [List.length_cons, List.length_append]
    refine ⟨by omega, fun k hk => ?_, by omega⟩
    rcases List.mem_cons.1 hk with rfl | hk
    · show n2.length ≤ _; omega
    · have := j2 k hk; omega
theorem prol_len {l t : List UInt8} (h : Prol l t) : t.length ≤ l.length := by
  induction h with
  | here t => simp
  | text c l v t r hc htp _ _ _ ih =>
    obtain ⟨a, ha⟩ := txp_suffix htp
    have hl := congrArg List.length ha
    rw [List.length_append] at hl
    omega
  | com c t r _ _ ih => simp only [List.length_cons, List.length_append]; omega
theorem doc_small {s : ByteArray} {nm : List UInt8} {av : List AttrS} {ks : List XEl} {rest : List UInt8} (h : DocOk s nm av ks rest) (hs : s.size ≤ 1000000) : GoodN nm ∧ nm.length ≤ 1000000 ∧ (∀ k ∈ ks, k.name.length ≤ 2000000) ∧ ks.length ≤ 2000000 := by
  obtain ⟨t, t2, r1, em, ⟨_, hR⟩, rfl, hN, hA, hk⟩ := h
  have ht : (nm ++ t2).length ≤ 1000000 := by
    rw [List.drop_zero] at hR
    rcases hR with ⟨l2, h1, h2⟩ | h2
    · have := prol_len h2
      have h3 := congrArg List.length h1
      rw [list_size, List.length_append] at h3
      omega
    · have := prol_len h2
      rw [list_size] at this
      omega
  rw [List.length_append] at ht
  refine ⟨hN, by omega, ?_⟩
  rcases hk with ⟨_, rfl, _⟩ | ⟨_, hC⟩
  · exact ⟨fun k hk => (by cases hk), Nat.zero_le _⟩
  · obtain ⟨a, ha, _⟩ := attrs_suffix hA
    have h3 := congrArg List.length ha
    rw [List.length_append] at h3
    obtain ⟨_, i2, i3⟩ := cont_names hC
    exact ⟨fun k hk => by have := i2 k hk; omega, by omega⟩
end Go.Proofs.YtlljphipglgjiaaGreatDoor

namespace Go.Proofs.YtlljphipglgjiaaGreatDoor
open Go.RowKit Go.Lib

/-- The decoder and blocks known beside it; since w only M and m have turned. -/
structure GSt (M : Nat → Prop) (w wr : World) (P m : Nat) (s : ByteArray) (i : Nat) (owe : Option (ByteArray × ByteArray)) (fr : List Fram) (F : NsF) (X : Known) : Prop where
  dec : DecV M wr P m s i owe fr F
  env : Env M m wr
  ok : KnownD X wr
  fr : Fr (fun y => M y ∨ y = m) w wr
section
variable {M : Nat → Prop} {w wr w2 : World} {P m : Nat} {s : ByteArray} {i j : Nat} {owe owe2 : Option (ByteArray × ByteArray)} {fr fr2 : List Fram} {F F2 : NsF} {X : Known}
theorem GSt.decS (h : GSt M w wr P m s i owe fr F X) : DecV (Sans M (X.map (·.1))) wr P m s i owe fr F := DecW.sans h.dec h.ok
theorem GSt.envS (h : GSt M w wr P m s i owe fr F X) : Env (Sans M (X.map (·.1))) m wr := h.env.sans _
theorem GSt.mne (h : GSt M w wr P m s i owe fr F X) : ∀ x ∈ X.map (·.1), m ≠ x := by
  intro x hx
  obtain ⟨L, f, bs, st, fl, n, _, _, _, _, _, hns, _⟩ := h.dec
  obtain ⟨y, hy, rfl⟩ := List.mem_map.1 hx
  exact hns.not_blk (h.ok y hy).1
/-- Behind a callee that works on the decoder. -/
theorem GSt.after (h : GSt M w wr P m s i owe fr F X) (h2 : DecV (Sans M (X.map (·.1))) w2 P m s j owe2 fr2 F2) (hf : Fr (fun y => Sans M (X.map (·.1)) y ∨ y = m) wr w2) : GSt M w w2 P m s j owe2 fr2 F2 X := by
  have hf2 : Fr (fun y => M y ∨ y = m) wr w2 := hf.mono fun y hy => by rcases hy with hy | hy; exact .inl hy.1; exact .inr hy
  exact ⟨DecW.wide h2 (fun k hk => hk.1) (DecW.notM h.dec), h.env.fr hf2, h.ok.fr hf (fun x hx e => by
    rcases e with e | e
    · exact e.2 hx
    · exact h.mne x hx e.symm), h.fr.trans hf2⟩
theorem GSt.wid (h : GSt M w wr P m s i owe fr F X) (hb : Below wr.heap.size wr w2) : GSt M w w2 P m s i owe fr F X := by
  have hf : Fr (fun x => wr.heap.size ≤ x) wr w2 := Fr.below hb (Nat.le_refl _) fun _ h => h
  have hf2 : Fr (fun y => M y ∨ y = m) wr w2 := hf.mono fun y hy => .inl (DecW.new h.dec y hy)
  exact ⟨DecW.below h.dec hb, h.env.fr hf2, h.ok.fr hf (fun x hx => Nat.not_le.2 (by
    obtain ⟨y, hy, rfl⟩ := List.mem_map.1 hx
    exact (h.ok y hy).1.lt)), h.fr.trans hf2⟩
theorem GSt.push (h : GSt M w wr P m s i owe fr F X) (T : TypeId) (cs : Array Value) (hT : T ≠ 197 ∧ T ≠ 190 ∧ T ≠ 5 ∧ T ≠ 200) : GSt M w (wr.alloc (.cells cs T)) P m s i owe fr F ((wr.heap.size, T, cs) :: X) := by
  have h2 := h.wid ((Below.refl wr.heap.size wr).alloc (Nat.le_refl _) (.cells cs T))
  refine ⟨h2.dec, h2.env, fun x hx => ?_, h2.fr⟩
  rcases List.mem_cons.1 hx with rfl | hx
  · exact ⟨Blk.new wr T cs, hT⟩
  · exact h2.ok x hx
/-- The head block gets a cell. -/
theorem GSt.set {b : Nat} {T : TypeId} {cs : Array Value} (h : GSt M w wr P m s i owe fr F ((b, T, cs) :: X)) (hb : b ∉ X.map (·.1)) (hM : M b) (k : Nat) (u : Value) : GSt M w (wr.setCell ⟨b, k, none⟩ u) P m s i owe fr F ((b, T, cs.setIfInBounds k u) :: X) := by
  have hf : Fr (fun x => x = b) wr (wr.setCell ⟨b, k, none⟩ u) := (Fr.refl (fun x => x = b) wr).setCell (p := ⟨b, k, none⟩) rfl u
  have hf2 : Fr (fun y => M y ∨ y = m) wr (wr.setCell ⟨b, k, none⟩ u) := hf.mono fun x hx => .inl (hx ▸ hM)
  have hmb := h.mne b (by simp)
  refine ⟨DecW.wide (DecW.other h.decS hf fun x hx _ e => ?_) (fun k hk => hk.1) (DecW.notM h.dec), h.env.fr hf2, fun x hx => ?_, h.fr.trans hf2⟩
  · rcases hx with hx | hx
    · exact hx.2 (by simp [e])
    · exact hmb (hx.symm.trans e)
  · rcases List.mem_cons.1 hx with rfl | hx
    · exact ⟨(h.ok (b, T, cs) (by simp)).1.set k u, (h.ok (b, T, cs) (by simp)).2⟩
    · exact ⟨(h.ok x (by simp [hx])).1.fr hf fun e => hb (List.mem_map.2 ⟨x, hx, e⟩), (h.ok x (by simp [hx])).2⟩
end

end Go.Proofs.YtlljphipglgjiaaGreatDoor

namespace Go.Proofs.YtlljphipglgjiaaGreatDoor
open Go.RowKit Go.Lib

theorem ta135_135 (v : Value) (w : World) : (Instr.typeAssert (.iface 135 v) 124 135 true).run Tryz.prog w = .ok (.tuple #[v, .bool true]) w := by kernel_rfl
theorem ta135_128 (v : Value) (w : World) : (Instr.typeAssert (.iface 128 v) 124 135 true).run Tryz.prog w = .ok (.tuple #[.slice none 0 0, .bool false]) w := by kernel_rfl
theorem ta135_62 (v : Value) (w : World) : (Instr.typeAssert (.iface 62 v) 124 135 true).run Tryz.prog w = .ok (.tuple #[.slice none 0 0, .bool false]) w := by kernel_rfl
theorem ta135_259 (v : Value) (w : World) : (Instr.typeAssert (.iface 259 v) 124 135 true).run Tryz.prog w = .ok (.tuple #[.slice none 0 0, .bool false]) w := by kernel_rfl

theorem append_types {P : Program} (w : World) {t u e e2 : TypeId} (ty : TypeId) (ht : P.underlying t = some (.slice e)) (hu : P.underlying u = some (.slice e2)) (v x : Value) :
    (Builtin.append_ #[t, u] ty #[v, x]).run P w = (Builtin.append_ #[t, t] ty #[v, x]).run P w := by
  unfold Builtin.append_
  cases v with
  | slice base l c => simp [Sem.run_bind, run_underlying ht, run_underlying hu]
  | _ => simp [run_underlying ht]
theorem wpList_append_two {P : Program} (w : World) {ops : Array Oper} {rest : List Oper} {o : Oper} {a : Act} {Q : Exit → Act → World → Prop} (hgd : o.guard = none) (s x : Operand) (t u : TypeId)
    (ho : o.op = .call { callee := .builtin .append, args := #[s, x], argTypes := #[t, u] })
    (base : Nat) (e e2 : TypeId) (i : TypeInfo) (z : Value) (size bytes : Nat) (ht : P.underlying t = some (.slice e)) (hu : P.underlying u = some (.slice e2)) (hi : P.info? e = some i) (hz : i.zero = some z)
    (hsize : i.size = size) (hby : i.bytes = bytes) (hzs : z.cells.size = size) (hsz : 0 < size)
    (v : Value) (n : Nat) (xs : List Value) (hs : a.eval s = v) (hown : w.ownsRow base e size v n xs)
    (ad : Addr) (m c : Nat) (news : List Value) (hx : a.eval x = .slice (some ad) m c) (hl : news.length = m * size) (hnews : ∀ j u, news[j]? = some u → w.cell? (ad.add j) = some u) (h1 : ∀ u ∈ news, u.oneCell' = true)
    (h63 : n + m ≤ maxLen) (hbytes : (n + m) * bytes ≤ 140737488355328) (hbase : base ≤ w.heap.size)
    (h : ∀ v' w', w'.ownsRow base e size v' (n + m) (xs ++ news) → w.grownBy w' v.ownBlock → RowAt w v v' → wpList P ops Q rest (a.put o.dst v') w') : wpList P ops Q (o :: rest) a w := by
  refine wpList_plain hgd fun K hK => ?_
  obtain ⟨v', w', hr, h2, h3, h4⟩ := run_append_where (P := P) w base t o.type e i z size bytes ht hi hz hsize hby hzs hsz v n xs hown ad m c news hl hnews h1 h63 hbytes hbase
  rw [← append_types w o.type ht hu] at hr
  unfold Oper.wp execOp
  simp only [ho, resolve, invoke, builtin, Sem.run_bind, Sem.run_pure, Result.andThen_ok, List.map_toArray, List.map_cons, List.map_nil, hs, hx, hr]
  exact hK _ _ (h v' w' h2 h3 h4)
theorem Tryz.info5b : (Tryz.prog.info? 5).map (fun i => (i.zero, i.size, i.bytes)) = some (some (.int .u8 0), 1, 1) := by kernel_rfl

section
variable {M : Nat → Prop} {w w' : World} {P m : Nat} {s : ByteArray} {i : Nat} {owe : Option (ByteArray × ByteArray)} {fr : List Fram} {F : NsF}
end

theorem inside_text {s : ByteArray} {i : Nat} {owe : Option (ByteArray × ByteArray)} {nm v : List UInt8} {ks : List XEl} {rest : List UInt8} (h : Inside s i owe nm (.mk [] [] v [] :: ks) rest) : v.length ≤ 4 * s.size := by
  obtain ⟨hi, ⟨_, h2, _⟩ | ⟨_, hC⟩⟩ := h
  · cases h2
  · have hl : (s.data.toList.drop i).length ≤ s.size := by rw [List.length_drop, list_size]; omega
    generalize s.data.toList.drop i = l at hC hl
    cases hC with
    | text c l nm v t ks r hc htp hg hv hC =>
      have := txp_len htp
      omega
    | empty n2 t nm t2 av ks r hN hA hC =>
      obtain ⟨c, t, h, _⟩ := hN.first
      cases h
    | elem n2 t nm t2 t3 av k2 ks r hN hA hC2 hC =>
      obtain ⟨c, t, h, _⟩ := hN.first
      cases h

end Go.Proofs.YtlljphipglgjiaaGreatDoor
