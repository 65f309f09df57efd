/-
  How a writer in memory turns, field by field; an entry under way. Plain law: how long what the writer makes may become.
-/
import Derived.Test.YtklcoppfkfenfaaGreatDoorFP11
import Derived.Test.YtklcoppfkfenfaaGreatDoorFP05
set_option linter.all false
set_option linter.unusedVariables false
set_option linter.unusedSimpArgs false
namespace Go.Proofs.YtklcoppfkfenfaaGreatDoor
set_option maxRecDepth 100000
open Go Go.RowKit

/-- one row and its field are turned, since an elder world -/
theorem WrTo.upd {w0 w w1 : World} {base B i : Nat} {V0 V V' : WV} {st0 st st' : WSt} (H : WrTo base B w0 V0 st0 w V st) {l1 l2 : List RowD} {r r' : RowD} (hr : V.rows st = l1 ++ r :: l2) (hr' : V'.rows st' = l1 ++ r' :: l2)
    (hc : V'.cells st' = (V.cells st).setIfInBounds i r'.v) (hf : Frame (fun k => r.v.ownBlock = some k) w w1) (hm : Moved w r.v r'.v) (ho : r'.ok w1 base) (hok : st'.ok)
    (hdue : V'.es.map Prod.fst = st'.due) (hde : ∀ p ∈ V'.es, p ∈ V.es ∨ FieldsAt V'.D w1 p.2 p.1.fields)
    (hls : V'.ls.map Prod.fst = st'.lists) (hle : ∀ p ∈ V'.ls, p ∈ V.ls ∨ Rd V'.D w1 p.2 p.1)
    (hD1 : ∀ k, V.D k → V'.D k) (hD2 : ∀ k, V'.D k → V.D k ∨ (w0.heap.size ≤ k ∧ k < w1.heap.size ∧ ¬ V.S st B k ∧ r'.v.ownBlock ≠ some k)) :
    WrTo base B w0 V0 st0 (w1.setCell ⟨B, i, none⟩ r'.v) V' st' := by
  have h := H.wr
  have hB := h.lt
  have hrows := h.rows
  rw [hr] at hrows
  have hrB : ∀ k, r.v.ownBlock = some k → k ≠ B := fun k hk e => hrows.notB r (by simp) (e ▸ hk)
  have hsw := hrows.swap (r' := r') hf hm ho hB
  have hmore : ∀ k, V'.S st' B k → V.S st B k ∨ w.heap.size ≤ k := by
    intro k hk
    unfold WV.S at hk ⊢
    rw [hr'] at hk; rw [hr]
    exact SW.swap hm k hk
  have hfB : Frame (fun k => k = B) w1 (w1.setCell ⟨B, i, none⟩ r'.v) := (Frame.refl (fun k => k = B) w1).setCell (p := ⟨B, i, none⟩) (.inl rfl) _
  have hfr : Frame (V.S st B) w (w1.setCell ⟨B, i, none⟩ r'.v) :=
    (hf.mono (S' := V.S st B) fun k hk => .inl (.inr ⟨r, by rw [hr]; simp, hk⟩)).trans hfB fun k hk => .inl (.inl hk)
  have hb1 : w1.heap[B]? = some (.cells (V.cells st) 82 (0, 0)) := by rw [hf.block B hB fun e => hrB B e rfl]; exact h.cells
  have hs : Same V.D w (w1.setCell ⟨B, i, none⟩ r'.v) := hfr.same fun k hk => h.hD k hk
  have hDn : ∀ k, V'.D k → k < (w1.setCell ⟨B, i, none⟩ r'.v).heap.size ∧ ¬ V'.S st' B k := fun k hk => by
    rcases hD2 k hk with h1 | ⟨h1, h2, h4, h3⟩
    · exact ⟨by have := (h.hD k h1).1; have := hfr.size; omega, fun e => (hmore k e).elim (h.hD k h1).2 fun e => by have := (h.hD k h1).1; omega⟩
    · refine ⟨by have := hfB.size; omega, ?_⟩
      unfold WV.S at h4 ⊢
      rw [hr] at h4
      rw [hr']
      rintro (rfl | ⟨x, hx, hxk⟩)
      · exact h4 (.inl rfl)
      · rcases List.mem_append.1 hx with hx | hx
        · exact h4 (.inr ⟨x, by simp [hx], hxk⟩)
        · rcases List.mem_cons.1 hx with rfl | hx
          · exact h3 hxk
          · exact h4 (.inr ⟨x, by simp [hx], hxk⟩)
  have hs1 : Same V'.D w1 (w1.setCell ⟨B, i, none⟩ r'.v) := fun k hk => Below.heap_setCell _ _ _ _ fun e => (hDn k hk).2 (.inl e)
  refine ⟨⟨h.hb, ?_, ?_, hok, hdue, fun p hp => ?_, hls, fun p hp => ?_, hDn⟩, H.frame.trans hfr H.more, fun k hk => ?_, fun k hk => ?_, fun k hk => hD1 k (H.lessD k hk)⟩
  · rw [heap_setCell_row hb1, hc]
  · rw [hr']; exact hsw.keep hfB fun x hx k hk e => hsw.notB x hx (e ▸ hk)
  · exact (hde p hp).elim (fun hp => ((h.dueAt p hp).keep hs).mono hD1) fun hf => hf.keep hs1
  · exact (hle p hp).elim (fun hp => ((h.listsAt p hp).keep hs).mono hD1) fun hf => hf.keep hs1
  · exact (hmore k hk).elim (H.more k) fun e => .inr (Nat.le_trans H.frame.size e)
  · exact (hD2 k hk).elim (H.moreD k) fun e => .inr e.1

theorem Moved.fresh {w w1 : World} {v v' : Value} {l : List Nat} (ho : Own w1 w.heap.size v' l) : Moved w v v' := .inr fun k hk => (own_lt ho k hk).1

/-- new bytes of the section that is being written -/
theorem WrTo.info {w0 w w1 : World} {base B : Nat} {V0 V : WV} {st0 st : WSt} (H : WrTo base B w0 V0 st0 w V st) (hf : Frame no w w1) {v' : Value} {l : List Nat} (ho : Own w1 w.heap.size v' l) :
    WrTo base B w0 V0 st0 (w1.setCell ⟨B, 7, none⟩ v') { V with info := v' } { st with info := l } := by
  have h := H.wr
  refine H.upd (l1 := [rowB V.abv st.abv, rowB V.ranges st.ranges, rowB V.str st.str]) (r := rowB V.info st.info) (r' := rowB v' l) rfl rfl rfl (Frame.of_no hf) (Moved.fresh ho) ((ho.mono_base (Nat.le_trans h.hb (Nat.le_of_lt h.lt))).1) { h.ok with info := ho.2 } h.due (fun p hp => .inl hp) h.lists (fun p hp => .inl hp) (fun _ h => h) (fun _ h => .inl h)
/-- bytes behind those of the section that is being written -/
theorem WrTo.infoApp {w0 w w1 : World} {base B : Nat} {V0 V : WV} {st0 st : WSt} (H : WrTo base B w0 V0 st0 w V st) (hf : Frame (fun k => V.info.ownBlock = some k) w w1) {v' : Value} {l : List Nat} (ho : Own w1 base v' l) (hm : Moved w V.info v') :
    WrTo base B w0 V0 st0 (w1.setCell ⟨B, 7, none⟩ v') { V with info := v' } { st with info := l } := by
  have h := H.wr
  refine H.upd (l1 := [rowB V.abv st.abv, rowB V.ranges st.ranges, rowB V.str st.str]) (r := rowB V.info st.info) (r' := rowB v' l) rfl rfl rfl hf hm ho.1 { h.ok with info := ho.2 } h.due (fun p hp => .inl hp) h.lists (fun p hp => .inl hp) (fun _ h => h) (fun _ h => .inl h)
/-- new bytes of the abbreviations -/
theorem WrTo.abv {w0 w w1 : World} {base B : Nat} {V0 V : WV} {st0 st : WSt} (H : WrTo base B w0 V0 st0 w V st) (hf : Frame no w w1) {v' : Value} {l : List Nat} (ho : Own w1 w.heap.size v' l) :
    WrTo base B w0 V0 st0 (w1.setCell ⟨B, 1, none⟩ v') { V with abv := v' } { st with abv := l } := by
  have h := H.wr
  refine H.upd (l1 := []) (r := rowB V.abv st.abv) (r' := rowB v' l) rfl rfl rfl (Frame.of_no hf) (Moved.fresh ho) ((ho.mono_base (Nat.le_trans h.hb (Nat.le_of_lt h.lt))).1) { h.ok with abv := ho.2 } h.due (fun p hp => .inl hp) h.lists (fun p hp => .inl hp) (fun _ h => h) (fun _ h => .inl h)
theorem WrTo.abvApp {w0 w w1 : World} {base B : Nat} {V0 V : WV} {st0 st : WSt} (H : WrTo base B w0 V0 st0 w V st) (hf : Frame (fun k => V.abv.ownBlock = some k) w w1) {v' : Value} {l : List Nat} (ho : Own w1 base v' l) (hm : Moved w V.abv v') :
    WrTo base B w0 V0 st0 (w1.setCell ⟨B, 1, none⟩ v') { V with abv := v' } { st with abv := l } := by
  have h := H.wr
  refine H.upd (l1 := []) (r := rowB V.abv st.abv) (r' := rowB v' l) rfl rfl rfl hf hm ho.1 { h.ok with abv := ho.2 } h.due (fun p hp => .inl hp) h.lists (fun p hp => .inl hp) (fun _ h => h) (fun _ h => .inl h)
/-- one more offset -/
theorem WrTo.offsets {w0 w w1 : World} {base B : Nat} {V0 V : WV} {st0 st : WSt} (H : WrTo base B w0 V0 st0 w V st) {v' : Value} {x : Nat} (hf : Frame (fun k => V.offsets.ownBlock = some k) w w1) (hm : Moved w V.offsets v')
    (ho : w1.ownsRow base 24 1 v' (st.offsets.length + 1) (uv st.offsets ++ [.int .u32 (x : Int)])) (hx : x < 4294967296) :
    WrTo base B w0 V0 st0 (w1.setCell ⟨B, 11, none⟩ v') { V with offsets := v' } { st with offsets := st.offsets ++ [x] } := by
  have h := H.wr
  refine H.upd (l1 := [rowB V.abv st.abv, rowB V.ranges st.ranges, rowB V.str st.str, rowB V.info st.info, rowB V.rngs st.rngs, rowB V.strs st.strs, rowB V.addrs st.addrs]) (r := ⟨V.offsets, 24, 1, st.offsets.length, uv st.offsets⟩) (r' := ⟨v', 24, 1, (st.offsets ++ [x]).length, uv (st.offsets ++ [x])⟩) rfl rfl rfl hf hm ?_ { h.ok with offsets := ?_ } h.due (fun p hp => .inl hp) h.lists (fun p hp => .inl hp) (fun _ h => h) (fun _ h => .inl h)
  · show w1.ownsRow base 24 1 v' (st.offsets ++ [x]).length (uv (st.offsets ++ [x]))
    simpa [uv] using ho
  · intro y hy
    rcases List.mem_append.1 hy with hy | hy
    · exact h.ok.offsets y hy
    · simp at hy; omega
theorem WrTo.units {w0 w w1 : World} {base B : Nat} {V0 V : WV} {st0 st : WSt} (H : WrTo base B w0 V0 st0 w V st) {v' : Value} {x : Nat} (hf : Frame (fun k => V.units.ownBlock = some k) w w1) (hm : Moved w V.units v')
    (ho : w1.ownsRow base 24 1 v' (st.units.length + 1) (uv st.units ++ [.int .u32 (x : Int)])) (hx : x < 4294967296) :
    WrTo base B w0 V0 st0 (w1.setCell ⟨B, 14, none⟩ v') { V with units := v' } { st with units := st.units ++ [x] } := by
  have h := H.wr
  refine H.upd (l1 := [rowB V.abv st.abv, rowB V.ranges st.ranges, rowB V.str st.str, rowB V.info st.info, rowB V.rngs st.rngs, rowB V.strs st.strs, rowB V.addrs st.addrs, ⟨V.offsets, 24, 1, st.offsets.length, uv st.offsets⟩]) (r := ⟨V.units, 24, 1, st.units.length, uv st.units⟩) (r' := ⟨v', 24, 1, (st.units ++ [x]).length, uv (st.units ++ [x])⟩) rfl rfl rfl hf hm ?_ { h.ok with units := ?_ } h.due (fun p hp => .inl hp) h.lists (fun p hp => .inl hp) (fun _ h => h) (fun _ h => .inl h)
  · show w1.ownsRow base 24 1 v' (st.units ++ [x]).length (uv (st.units ++ [x]))
    simpa [uv] using ho
  · intro y hy
    rcases List.mem_append.1 hy with hy | hy
    · exact h.ok.units y hy
    · simp at hy; omega
/-- one more entry that is due; its fields lie in new blocks -/
theorem WrTo.due {w0 w w1 : World} {base B : Nat} {V0 V : WV} {st0 st : WSt} (H : WrTo base B w0 V0 st0 w V st) {v' fv : Value} {e : EntryD} {X : Bs} (hf : Frame (fun k => V.due.ownBlock = some k) w w1) (hm : Moved w V.due v')
    (ho : w1.ownsRow base 96 4 v' (V.es.length + 1) (V.es.flatMap entC ++ [.int .u32 (e.off : Int), .int .u32 (e.tag : Int), .bool e.children, fv]))
    (hfa : FieldsAt (fun k => V.D k ∨ X k) w1 fv e.fields) (hX : ∀ k, X k → w0.heap.size ≤ k ∧ k < w1.heap.size ∧ ¬ V.S st B k ∧ v'.ownBlock ≠ some k) :
    WrTo base B w0 V0 st0 (w1.setCell ⟨B, 13, none⟩ v') { V with due := v', es := V.es ++ [(e, fv)], D := fun k => V.D k ∨ X k } { st with due := st.due ++ [e] } := by
  have h := H.wr
  refine H.upd (V' := { V with due := v', es := V.es ++ [(e, fv)], D := fun k => V.D k ∨ X k }) (l1 := [rowB V.abv st.abv, rowB V.ranges st.ranges, rowB V.str st.str, rowB V.info st.info, rowB V.rngs st.rngs, rowB V.strs st.strs, rowB V.addrs st.addrs, ⟨V.offsets, 24, 1, st.offsets.length, uv st.offsets⟩, ⟨V.units, 24, 1, st.units.length, uv st.units⟩, ⟨V.places, 29, 1, st.places.length, qv st.places⟩])
    (r := ⟨V.due, 96, 4, V.es.length, V.es.flatMap entC⟩) (r' := ⟨v', 96, 4, (V.es ++ [(e, fv)]).length, (V.es ++ [(e, fv)]).flatMap entC⟩) rfl rfl rfl hf hm ?_ { h.ok with } ?_ ?_ h.lists (fun p hp => .inl hp) (fun _ h => .inl h) (fun k hk => hk.imp id (hX k))
  · show w1.ownsRow base 96 4 v' (V.es ++ [(e, fv)]).length ((V.es ++ [(e, fv)]).flatMap entC)
    simpa [entC] using ho
  · show (V.es ++ [(e, fv)]).map Prod.fst = st.due ++ [e]
    rw [List.map_append, h.due]; rfl
  · intro p hp
    rcases List.mem_append.1 hp with hp | hp
    · exact .inl hp
    · simp at hp; subst hp; exact .inr hfa

/-- an entry under way, in block E, with its fields -/
structure EntAt (w0 : World) (B : Nat) (V : WV) (st : WSt) (E off tag : Nat) (ch : Bool) (fv : Value) (ps : List (FieldD × Value)) (w : World) : Prop where
  lt : w0.heap.size + 2 ≤ E ∧ E < w.heap.size
  apartE : ¬ V.S st B E ∧ ¬ V.D E
  blk : w.heap[E]? = some (.cells #[.int .u32 (off : Int), .int .u32 (tag : Int), .bool ch, fv] 96)
  row : w.ownsRow (w0.heap.size + 2) 101 5 fv ps.length (ps.flatMap fieldC)
  apartR : ∀ k, fv.ownBlock = some k → k ≠ E ∧ ¬ V.S st B k ∧ ¬ V.D k
  data : ∀ p ∈ ps, Rd V.D w p.2 p.1.data
theorem EntAt.to {w0 w w' : World} {base B E off tag : Nat} {V V' : WV} {st st' : WSt} {ch : Bool} {fv : Value} {ps : List (FieldD × Value)} (h : EntAt w0 B V st E off tag ch fv ps w) (hW : Wr w base B V st) (k : WrTo base B w V st w' V' st') : EntAt w0 B V' st' E off tag ch fv ps w' :=
  ⟨⟨h.lt.1, Nat.lt_of_lt_of_le h.lt.2 k.frame.size⟩, k.apart h.lt.2 h.apartE, (k.frame.block E h.lt.2 h.apartE.1).trans h.blk, ownsRow_keep h.row fun i hi => k.frame.block i (h.row.lt i hi).2 (h.apartR i hi).2.1,
   fun i hi => ⟨(h.apartR i hi).1, k.apart (h.row.lt i hi).2 (h.apartR i hi).2⟩, fun p hp => ((h.data p hp).keep (k.frame.same fun i hi => hW.hD i hi)).mono k.lessD⟩
theorem EntAt.frame {w0 w w' : World} {base B E off tag : Nat} {V : WV} {st : WSt} {ch : Bool} {fv : Value} {ps : List (FieldD × Value)} {T : Bs} (h : EntAt w0 B V st E off tag ch fv ps w) (hW : Wr w base B V st) (hf : Frame T w w') (hE : ¬ T E) (hR : ∀ k, fv.ownBlock = some k → ¬ T k) (hD : ∀ k, V.D k → ¬ T k) : EntAt w0 B V st E off tag ch fv ps w' :=
  ⟨⟨h.lt.1, Nat.lt_of_lt_of_le h.lt.2 hf.size⟩, h.apartE, (hf.block E h.lt.2 hE).trans h.blk, ownsRow_keep h.row fun i hi => hf.block i (h.row.lt i hi).2 (hR i hi), h.apartR, fun p hp => (h.data p hp).keep (hf.same fun i hi => ⟨(hW.hD i hi).1, hD i hi⟩)⟩
theorem EntAt.no {w0 w w' : World} {base B E off tag : Nat} {V : WV} {st : WSt} {ch : Bool} {fv : Value} {ps : List (FieldD × Value)} (h : EntAt w0 B V st E off tag ch fv ps w) (hW : Wr w base B V st) (hf : Frame no w w') : EntAt w0 B V st E off tag ch fv ps w' :=
  h.frame hW hf id (fun _ _ => id) (fun _ _ => id)
/-- one more field -/
theorem EntAt.push {w0 w w1 : World} {base B E off tag : Nat} {V : WV} {st : WSt} {ch : Bool} {fv v' dv : Value} {ps : List (FieldD × Value)} {f : FieldD} (h : EntAt w0 B V st E off tag ch fv ps w) (hW : Wr w base B V st)
    (hf : Frame (fun k => fv.ownBlock = some k) w w1) (hm : ∀ k, v'.ownBlock = some k → fv.ownBlock = some k ∨ w.heap.size ≤ k) (ho : w1.ownsRow (w0.heap.size + 2) 101 5 v' (ps.length + 1) (ps.flatMap fieldC ++ fieldC (f, dv))) (hd : Rd V.D w dv f.data) :
    EntAt w0 B V st E off tag ch v' (ps ++ [(f, dv)]) (w1.setCell ⟨E, 3, none⟩ v') := by
  have hE : ¬ fv.ownBlock = some E := fun e => (h.apartR E e).1 rfl
  have hnE : ∀ k, v'.ownBlock = some k → k ≠ E := fun k hk e => by
    rcases hm k hk with e1 | e1
    · exact (h.apartR k e1).1 e
    · have := h.lt.2; omega
  have hfe : Frame (fun k => k = E) w1 (w1.setCell ⟨E, 3, none⟩ v') := (Frame.refl (fun k => k = E) w1).setCell (p := ⟨E, 3, none⟩) (.inl rfl) _
  have hb1 : w1.heap[E]? = some (.cells #[.int .u32 (off : Int), .int .u32 (tag : Int), .bool ch, fv] 96) := (hf.block E h.lt.2 hE).trans h.blk
  have hsame : Same V.D w (w1.setCell ⟨E, 3, none⟩ v') := fun k hk => by
    have h1 := (hW.hD k hk).1
    have h2 : ¬ fv.ownBlock = some k := fun e => (h.apartR k e).2.2 hk
    have h3 : k ≠ E := fun e => h.apartE.2 (e ▸ hk)
    exact (hfe.block k (Nat.lt_of_lt_of_le h1 hf.size) h3).trans (hf.block k h1 h2)
  refine ⟨⟨h.lt.1, Nat.lt_of_lt_of_le h.lt.2 (Nat.le_trans hf.size hfe.size)⟩, h.apartE, heap_setCell_row hb1 v', ?_, fun k hk => ⟨hnE k hk, ?_⟩, fun p hp => ?_⟩
  · have : w1.ownsRow (w0.heap.size + 2) 101 5 v' (ps ++ [(f, dv)]).length ((ps ++ [(f, dv)]).flatMap fieldC) := by simpa using ho
    exact ownsRow_keep this fun k hk => hfe.block k (this.lt k hk).2 (hnE k hk)
  · rcases hm k hk with e | e
    · exact (h.apartR k e).2
    · exact ⟨fun e' => by have := (hW.S_lt k e').2; omega, fun e' => by have := (hW.hD k e').1; omega⟩
  · rcases List.mem_append.1 hp with hp | hp
    · exact (h.data p hp).keep hsame
    · simp at hp; subst hp; exact hd.keep hsame

end Go.Proofs.YtklcoppfkfenfaaGreatDoor
namespace Go.Proofs.YtklcoppfkfenfaaGreatDoor

structure Small (st : WSt) (N : Nat) : Prop where
  abv : st.abv.length ≤ N
  ranges : st.ranges.length ≤ N
  str : st.str.length ≤ N
  info : st.info.length ≤ N
  rngs : st.rngs.length ≤ N
  strs : st.strs.length ≤ N
  addrs : st.addrs.length ≤ N
  offsets : st.offsets.length ≤ N
  units : st.units.length ≤ N
  places : st.places.length ≤ N
  due : st.due.length ≤ N
  lists : st.lists.length ≤ N
  flat : st.lists.flatten.length ≤ N
theorem Small.mono {st : WSt} {N M : Nat} (h : Small st N) (hm : N ≤ M) : Small st M :=
  ⟨Nat.le_trans h.abv hm, Nat.le_trans h.ranges hm, Nat.le_trans h.str hm, Nat.le_trans h.info hm, Nat.le_trans h.rngs hm, Nat.le_trans h.strs hm, Nat.le_trans h.addrs hm, Nat.le_trans h.offsets hm, Nat.le_trans h.units hm, Nat.le_trans h.places hm, Nat.le_trans h.due hm, Nat.le_trans h.lists hm, Nat.le_trans h.flat hm⟩

def growA (a : AttrD) : Nat := 60 + a.data.length + 24 * a.list.length
def AttrB (a : AttrD) : Prop := a.attr < 4294967296 ∧ a.form < 4294967296 ∧ a.n < 18446744073709551616 ∧ ∀ x ∈ a.list, x.a < 18446744073709551616 ∧ x.b < 18446744073709551616

theorem fixedF_le (v : Int) (w : Bool) (ad form : Nat) (h : ad ≤ 8) : 0 ≤ fixedF v w ad form ∧ (fixedF v w ad form).toNat ≤ 8 := by
  unfold fixedF wordF
  (repeat' split) <;> omega
theorem itemB_len (v : Int) (size : Nat) (big : Bool) (it : ItemD) (pl : List Nat) (hs : size ≤ 8) (ha : it.a < 18446744073709551616) (hb : it.b < 18446744073709551616) (hp : pl.length < 10000000000000000000) :
    (itemB v size big it pl).1.length ≤ 21 ∧ (itemB v size big it pl).2.length ≤ pl.length + 2 := by
  have h1 := uleb_len64 it.a ha
  have h2 := uleb_len64 it.b hb
  have h3 := uleb_len64 pl.length (by omega)
  have h4 := uleb_len64 (pl.length + 1) (by omega)
  unfold itemB
  (repeat' split) <;> simp only [List.length_append, num_length, List.length_cons, List.length_nil] <;> omega
theorem itemsB_len (v : Int) (size : Nat) (big : Bool) (hs : size ≤ 8) : ∀ (its : List ItemD) (p : List Nat × List Nat), (∀ x ∈ its, x.a < 18446744073709551616 ∧ x.b < 18446744073709551616) → p.2.length + 2 * its.length < 10000000000000000000 →
    (itemsB v size big its p).1.length ≤ p.1.length + 21 * its.length ∧ (itemsB v size big its p).2.length ≤ p.2.length + 2 * its.length
  | [], p, _, _ => ⟨by simp [itemsB], by simp [itemsB]⟩
  | it :: its, p, hx, hp => by
    have h0 := hx it (by simp)
    simp only [List.length_cons] at hp
    have h1 := itemB_len v size big it p.2 hs h0.1 h0.2 (by omega)
    have h2 := itemsB_len v size big hs its (p.1 ++ (itemB v size big it p.2).1, (itemB v size big it p.2).2) (fun x h => hx x (by simp [h])) (by simp only; omega)
    simp only [itemsB, List.length_append, List.length_cons] at h2 ⊢
    omega
theorem listB_len (v : Int) (size : Nat) (big : Bool) (hs : size ≤ 8) (its : List ItemD) (pl : List Nat) (hx : ∀ x ∈ its, x.a < 18446744073709551616 ∧ x.b < 18446744073709551616) (hp : pl.length + 2 * its.length < 10000000000000000000) :
    (listB v size big its pl).1.length ≤ 16 + 21 * its.length ∧ (listB v size big its pl).2.length ≤ pl.length + 2 * its.length := by
  have h := itemsB_len v size big hs its ([], pl) hx hp
  simp only [List.length_nil] at h
  unfold listB
  refine ⟨?_, by simp only; omega⟩
  simp only
  split <;> simp only [List.length_append, num_length, List.length_cons, List.length_nil] <;> omega
theorem valueF_small (v : Int) (wide : Bool) (ad : Nat) (a : AttrD) (st : WSt) (N : Nat) (had : ad ≤ 8) (ha : AttrB a) (h : Small st N) (hN : N + growA a ≤ 1000000000) :
    (valueF v wide ad a st).bytes.length ≤ growA a ∧ Small (valueF v wide ad a st).st (N + growA a) ∧ (valueF v wide ad a st).st.info = st.info ∧ (valueF v wide ad a st).st.due = st.due ∧ (valueF v wide ad a st).st.offsets = st.offsets ∧ (valueF v wide ad a st).st.big = st.big := by
  obtain ⟨_, _, hn, hx⟩ := ha
  have hfx := fixedF_le v wide ad a.form had
  have hm : Small st (N + growA a) := h.mono (by omega)
  have hsg : (sleb (sgn a.n)).length ≤ 10 := sleb_len64 _ (by unfold sgn; split <;> omega)
  have hub := uleb_len64 a.n hn
  have hp := h.places
  have hul := uleb_len64 st.places.length (by omega)
  have hull := uleb_len64 st.lists.length (by have := h.lists; omega)
  have hlb := listB_len v ad st.big had a.list st.places hx (by unfold growA at hN; omega)
  unfold valueF
  simp only
  split
  · unfold rangesF
    simp only
    split
    · refine ⟨by simp only [num_length]; unfold growA; omega, ⟨hm.abv, ?_, hm.str, hm.info, hm.rngs, hm.strs, hm.addrs, hm.offsets, hm.units, ?_, hm.due, hm.lists, hm.flat⟩, rfl, rfl, rfl, rfl⟩
      · have := h.ranges; simp only [List.length_append]; unfold growA; omega
      · simp only; unfold growA; omega
    · split
      · refine ⟨by simp only; unfold growA; omega, ⟨hm.abv, hm.ranges, hm.str, hm.info, hm.rngs, hm.strs, hm.addrs, hm.offsets, hm.units, ?_, hm.due, ?_, ?_⟩, rfl, rfl, rfl, rfl⟩
        · simp only; unfold growA; omega
        · have := h.lists; simp only [List.length_append, List.length_cons, List.length_nil]; unfold growA; omega
        · have := h.flat; simp only [List.flatten_append, List.length_append, List.flatten_cons, List.flatten_nil, List.append_nil]; unfold growA; omega
      · refine ⟨by simp only [num_length]; unfold growA; omega, ⟨hm.abv, hm.ranges, hm.str, hm.info, hm.rngs, hm.strs, hm.addrs, hm.offsets, hm.units, ?_, hm.due, ?_, ?_⟩, rfl, rfl, rfl, rfl⟩
        · simp only; unfold growA; omega
        · have := h.lists; simp only [List.length_append, List.length_cons, List.length_nil]; unfold growA; omega
        · have := h.flat; simp only [List.flatten_append, List.length_append, List.flatten_cons, List.flatten_nil, List.append_nil]; unfold growA; omega
  · split
    · refine ⟨by simp only; unfold growA; omega, ⟨hm.abv, hm.ranges, hm.str, hm.info, hm.rngs, hm.strs, hm.addrs, hm.offsets, hm.units, ?_, hm.due, hm.lists, hm.flat⟩, rfl, rfl, rfl, rfl⟩
      simp only [List.length_append, List.length_cons, List.length_nil]; unfold growA; omega
    · split
      · exact ⟨by simp only [num_length]; unfold growA; omega, hm, rfl, rfl, rfl, rfl⟩
      · split
        · exact ⟨by simp only [List.length_append, List.length_cons, List.length_nil]; unfold growA; omega, hm, rfl, rfl, rfl, rfl⟩
        · split
          · refine ⟨by simp only [num_length]; unfold growA; omega, ⟨hm.abv, hm.ranges, ?_, hm.info, hm.rngs, hm.strs, hm.addrs, hm.offsets, hm.units, hm.places, hm.due, hm.lists, hm.flat⟩, rfl, rfl, rfl, rfl⟩
            have := h.str; simp only [List.length_append, List.length_cons, List.length_nil]; unfold growA; omega
          · split
            · exact ⟨by simp only; unfold growA; omega, hm, rfl, rfl, rfl, rfl⟩
            · split
              · exact ⟨by simp only; unfold growA; omega, hm, rfl, rfl, rfl, rfl⟩
              · exact ⟨by simp only [num_length]; unfold growA; omega, hm, rfl, rfl, rfl, rfl⟩

def growAs (al : List AttrD) : Nat := (al.map growA).sum
theorem growAs_cons (a : AttrD) (al : List AttrD) : growAs (a :: al) = growA a + growAs al := by simp [growAs]
theorem growAs_take (al : List AttrD) (k : Nat) (h : k < al.length) : growAs (al.take (k + 1)) = growAs (al.take k) + growA al[k] := by
  unfold growAs; rw [List.take_succ_eq_append_getElem h, List.map_append, List.sum_append]; simp
theorem growAs_take_le (al : List AttrD) (k : Nat) : growAs (al.take k) ≤ growAs al := by
  conv => rhs; rw [← List.take_append_drop k al]
  unfold growAs; rw [List.map_append, List.sum_append]; omega
mutual
def costF : NodeD → Nat
  | .mk _ al _ kids => 20 + growAs al + costL kids
def costL : List NodeD → Nat
  | [] => 0
  | k :: ks => costF k + costL ks
end
theorem costF_eq (nd : NodeD) : costF nd = 20 + growAs nd.attrs + costL nd.kids := by cases nd; simp [costF, NodeD.attrs, NodeD.kids]
theorem costL_append (a b : List NodeD) : costL (a ++ b) = costL a + costL b := by
  induction a with
  | nil => simp [costL]
  | cons x a ih => simp [costL, ih]; omega
theorem costL_take (l : List NodeD) (k : Nat) (h : k < l.length) : costL (l.take (k + 1)) = costL (l.take k) + costF l[k] := by
  rw [List.take_succ_eq_append_getElem h, costL_append]; simp [costL]
theorem costL_take_le (l : List NodeD) (k : Nat) : costL (l.take k) ≤ costL l := by
  conv => rhs; rw [← List.take_append_drop k l]
  rw [costL_append]; omega

/-- the state behind k attributes -/
theorem attrsF_append (v : Int) (wide : Bool) (ad : Nat) (a b : List AttrD) (p : WSt × List FieldD) : attrsF v wide ad (a ++ b) p = attrsF v wide ad b (attrsF v wide ad a p) := by
  induction a generalizing p with
  | nil => simp [attrsF]
  | cons x a ih => simp [attrsF, ih]
theorem attrsF_take (v : Int) (wide : Bool) (ad : Nat) (al : List AttrD) (k : Nat) (h : k < al.length) (p : WSt × List FieldD) :
    attrsF v wide ad (al.take (k + 1)) p = ({ (valueF v wide ad al[k] (attrsF v wide ad (al.take k) p).1).st with info := (attrsF v wide ad (al.take k) p).1.info ++ (valueF v wide ad al[k] (attrsF v wide ad (al.take k) p).1).bytes },
      (attrsF v wide ad (al.take k) p).2 ++ [{ attr := al[k].attr, cls := classF al[k].attr al[k].form v, kind := (valueF v wide ad al[k] (attrsF v wide ad (al.take k) p).1).kind, n := (valueF v wide ad al[k] (attrsF v wide ad (al.take k) p).1).n, data := (valueF v wide ad al[k] (attrsF v wide ad (al.take k) p).1).data }]) := by
  rw [List.take_succ_eq_append_getElem h, attrsF_append]; simp [attrsF]
theorem kidsF_append (v : Int) (wide : Bool) (ad : Nat) (l : List (List Nat)) (a b : List NodeD) (st : WSt) : kidsF v wide ad l (a ++ b) st = kidsF v wide ad l b (kidsF v wide ad l a st) := by
  induction a generalizing st with
  | nil => simp [kidsF]
  | cons x a ih => simp [kidsF, ih]
theorem kidsF_take (v : Int) (wide : Bool) (ad : Nat) (l : List (List Nat)) (ks : List NodeD) (k : Nat) (h : k < ks.length) (st : WSt) : kidsF v wide ad l (ks.take (k + 1)) st = nodeF v wide ad l ks[k] (kidsF v wide ad l (ks.take k) st) := by
  rw [List.take_succ_eq_append_getElem h, kidsF_append]; simp [kidsF]
theorem nodeF_eq (v : Int) (wide : Bool) (ad : Nat) (l : List (List Nat)) (nd : NodeD) (st : WSt) : nodeF v wide ad l nd st = tailF nd (kidsF v wide ad l nd.kids (headF v wide ad l nd st)) := by cases nd; simp [nodeF, NodeD.kids]

theorem attrsF_small (v : Int) (wide : Bool) (ad : Nat) (had : ad ≤ 8) : ∀ (al : List AttrD) (p : WSt × List FieldD) (N : Nat), (∀ a ∈ al, AttrB a) → Small p.1 N → N + growAs al ≤ 1000000000 → Small (attrsF v wide ad al p).1 (N + growAs al)
  | [], p, N, _, h, _ => by simpa [attrsF, growAs] using h
  | a :: al, p, N, ha, h, hN => by
    rw [growAs_cons] at hN ⊢
    have h1 := valueF_small v wide ad a p.1 N had (ha a (by simp)) h (by omega)
    simp only [attrsF]
    rw [← Nat.add_assoc]
    refine attrsF_small v wide ad had al _ (N + growA a) (fun x hx => ha x (by simp [hx])) ?_ (by omega)
    have h2 := h1.2.1
    refine ⟨h2.abv, h2.ranges, h2.str, ?_, h2.rngs, h2.strs, h2.addrs, h2.offsets, h2.units, h2.places, h2.due, h2.lists, h2.flat⟩
    have := h.info; simp only [List.length_append]; omega
def NodeB (nd : NodeD) : Prop := AllN (fun n => ∀ a ∈ n.attrs, AttrB a) nd
theorem codeF_le (l : List (List Nat)) (s : List Nat) : codeF l s ≤ l.length := by
  induction l with
  | nil => simp [codeF]
  | cons x l ih => simp only [codeF]; (repeat' split) <;> simp only [List.length_cons] <;> omega
theorem headF_small (v : Int) (wide : Bool) (ad : Nat) (had : ad ≤ 8) (l : List (List Nat)) (nd : NodeD) (st : WSt) (N : Nat) (hl : l.length < 18446744073709551616) (ha : ∀ a ∈ nd.attrs, AttrB a) (h : Small st N) (hN : N + (12 + growAs nd.attrs) ≤ 1000000000) :
    Small (headF v wide ad l nd st) (N + (12 + growAs nd.attrs)) := by
  have hc := codeF_le l (shapeB nd)
  have hu := uleb_len64 (codeF l (shapeB nd)) (by omega)
  have h1 : Small { st with offsets := st.offsets ++ [st.info.length % 4294967296], info := st.info ++ uleb (codeF l (shapeB nd)) } (N + 10) := by
    have hm := h.mono (M := N + 10) (by omega)
    refine ⟨hm.abv, hm.ranges, hm.str, ?_, hm.rngs, hm.strs, hm.addrs, ?_, hm.units, hm.places, hm.due, hm.lists, hm.flat⟩
    · have := h.info; simp only [List.length_append]; omega
    · have := h.offsets; simp only [List.length_append, List.length_cons, List.length_nil]; omega
  have h2 := attrsF_small v wide ad had nd.attrs ({ st with offsets := st.offsets ++ [st.info.length % 4294967296], info := st.info ++ uleb (codeF l (shapeB nd)) }, []) (N + 10) ha h1 (by omega)
  unfold headF
  simp only
  have hm := h2.mono (M := N + (12 + growAs nd.attrs)) (by omega)
  refine ⟨hm.abv, hm.ranges, hm.str, hm.info, hm.rngs, hm.strs, hm.addrs, hm.offsets, hm.units, hm.places, ?_, hm.lists, hm.flat⟩
  have := h2.due; simp only [List.length_append, List.length_cons, List.length_nil]; omega
theorem tailF_small (nd : NodeD) (st : WSt) (N : Nat) (h : Small st N) : Small (tailF nd st) (N + 1) := by
  unfold tailF
  split
  · have hm := h.mono (M := N + 1) (by omega)
    refine ⟨hm.abv, hm.ranges, hm.str, ?_, hm.rngs, hm.strs, hm.addrs, hm.offsets, hm.units, hm.places, ?_, hm.lists, hm.flat⟩
    · have := h.info; simp only [List.length_append, List.length_cons, List.length_nil]; omega
    · have := h.due; simp only [List.length_append, List.length_cons, List.length_nil]; omega
  · exact h.mono (by omega)
mutual
theorem nodeF_small (v : Int) (wide : Bool) (ad : Nat) (had : ad ≤ 8) (l : List (List Nat)) (hl : l.length < 18446744073709551616) : ∀ (nd : NodeD) (st : WSt) (N : Nat), NodeB nd → Small st N → N + costF nd ≤ 1000000000 → Small (nodeF v wide ad l nd st) (N + costF nd)
  | .mk t al o kids, st, N, hb, h, hN => by
    have hb' := (AllN_eq _ _).1 hb
    rw [costF] at hN ⊢
    have h1 := headF_small v wide ad had l (.mk t al o kids) st N hl hb'.1 h (by simp only [NodeD.attrs]; omega)
    simp only [NodeD.attrs] at h1
    have h2 := kidsF_small v wide ad had l hl kids _ _ hb'.2 h1 (by omega)
    rw [nodeF]
    exact (tailF_small _ _ _ h2).mono (by omega)
theorem kidsF_small (v : Int) (wide : Bool) (ad : Nat) (had : ad ≤ 8) (l : List (List Nat)) (hl : l.length < 18446744073709551616) : ∀ (ks : List NodeD) (st : WSt) (N : Nat), AllL (fun n => ∀ a ∈ n.attrs, AttrB a) ks → Small st N → N + costL ks ≤ 1000000000 → Small (kidsF v wide ad l ks st) (N + costL ks)
  | [], st, N, _, h, _ => by simpa [kidsF, costL] using h
  | k :: ks, st, N, hb, h, hN => by
    rw [costL] at hN ⊢
    have h1 := nodeF_small v wide ad had l hl k st N hb.1 h (by omega)
    have h2 := kidsF_small v wide ad had l hl ks _ _ hb.2 h1 (by omega)
    rw [kidsF, ← Nat.add_assoc]
    exact h2
end

end Go.Proofs.YtklcoppfkfenfaaGreatDoor
