import Derived.Test.Qxb6601564aB1
namespace Go.Proofs.Qxb6601564a
open Go.RowKit Go.WideMaps
set_option linter.unusedVariables false

theorem cell_one {w : World} {k : Nat} {v : Value} {t : TypeId} (h : w.heap[k]? = some (.cells #[v] t (0, 0))) : w.cell? ⟨k, 0, none⟩ = some v := by simp [World.cell?, h]
theorem free_one {w : World} {k : Nat} {v : Value} {t : TypeId} (h : w.heap[k]? = some (.cells #[v] t (0, 0))) (j : Nat) : w.frozen? ⟨k, j, none⟩ = false := by simp [World.frozen?, h]
theorem heap_set_one {w : World} {k : Nat} {v u : Value} {t : TypeId} (h : w.heap[k]? = some (.cells #[v] t (0, 0))) : (w.setCell ⟨k, 0, none⟩ u).heap[k]? = some (.cells #[u] t (0, 0)) := by
  rw [heap_setCell_same w k 0 #[v] t u h]; rfl

set_option maxHeartbeats 800000 in
theorem id_old (H mi bi bb bg : Nat) (g : Gr) (vu : Value) (s : ByteArray) (w : World) (hs : s.size ≤ maxLen) (h : CS w H mi bi bb bg g vu) (hx : ix g.names s < g.names.length) :
    Calls Try.prog 17 #[.string s, .pointer (some ⟨bi, 0, none⟩), .pointer (some ⟨bb, 0, none⟩), .pointer (some ⟨bg, 0, none⟩)] w fun e w' => e = .returned (.int .i32 (ix g.names s)) ∧ w = w' := by
  obtain ⟨D, hD, hM⟩ := h.map
  have hl := look_id hs hD (hM.hit s hx).1 ((hM.hit s hx).2 _)
  have c0 := cell_one h.ids
  clear hx hM hD h
  go_enter Try.func17, Try.ntmps17
  go_wp2
  go_ret
  exact ⟨rfl, rfl⟩

theorem ne_of_types {w : World} {a b : Nat} {cs cs' : Array Value} {t t' : TypeId} (ha : w.heap[a]? = some (.cells cs t (0, 0))) (hb : w.heap[b]? = some (.cells cs' t' (0, 0))) (ht : t ≠ t') : a ≠ b := fun e => by
  subst e; rw [ha] at hb; simp at hb; exact ht hb.2
theorem ne_of_map {w : World} {a b : Nat} {cs : Array Value} {t : TypeId} {es : Array MapEntry} {cl : Nat} (ha : w.heap[a]? = some (.cells cs t (0, 0))) (hb : w.heap[b]? = some (.map es cl)) : a ≠ b := fun e => by
  subst e; rw [ha] at hb; simp at hb
/-- Blocks of another element type than e are kept by an append onto a row of e's. -/
theorem kept_types {w w' : World} {base : Nat} {e : TypeId} {size : Nat} {v : Value} {n : Nat} {xs : List Value} (h : w.ownsRow base e size v n xs) (hg : w.grownBy w' v.ownBlock) {k : Nat} {cs : Array Value} {t : TypeId}
    (hk : w.heap[k]? = some (.cells cs t (0, 0))) (ht : t ≠ e) : w'.heap[k]? = some (.cells cs t (0, 0)) := by
  rw [hg.block k (heap_lt hk) ?_]
  · exact hk
  · intro e'
    obtain ⟨cs', hcs⟩ := ownsRow_block h e'.symm
    exact ne_of_types hk hcs ht rfl
theorem kept_map {w w' : World} {base : Nat} {e : TypeId} {size : Nat} {v : Value} {n : Nat} {xs : List Value} (h : w.ownsRow base e size v n xs) (hg : w.grownBy w' v.ownBlock) {k : Nat} {es : Array MapEntry} {cl : Nat}
    (hk : w.heap[k]? = some (.map es cl)) : w'.heap[k]? = w.heap[k]? := by
  rw [hg.block k (heap_lt hk) ?_]
  intro e'
  obtain ⟨cs', hcs⟩ := ownsRow_block h e'.symm
  exact ne_of_map hcs hk rfl
theorem alloc_keep {w : World} {k : Nat} {o : Obj} (h : w.heap[k]? = some o) (o' : Obj) : (w.alloc o').heap[k]? = some o := by rw [Below.heap_alloc w o' k (heap_lt h)]; exact h
theorem set_keep {w : World} {k : Nat} {o : Obj} (h : w.heap[k]? = some o) (a : Addr) (u : Value) (hne : k ≠ a.block) : (w.setCell a u).heap[k]? = some o := by rw [Below.heap_setCell w a u k hne]; exact h
theorem news_one (w : World) (v : Value) (t : TypeId) (j : Nat) (u : Value) (h : ([v] : List Value)[j]? = some u) : (w.alloc (.cells #[v] t)).cell? ((⟨w.heap.size, 0, none⟩ : Addr).add j) = some u := World.news_of_block (heap_alloc_new w _) j u (by simpa using h)

/-- What the closure 'id' leaves where the name is new. -/
def IdNew (w : World) (H mi bi bb bg : Nat) (g : Gr) (vu : Value) (s : ByteArray) (e : Ending) (w' : World) : Prop :=
  e = .returned (.int .i32 (ix g.names s)) ∧ Below H w w' ∧ CS w' H mi bi bb bg (g.add s) vu ∧ ∀ (k : Nat) (cs : Array Value), w.heap[k]? = some (.cells cs 43 (0, 0)) → w'.heap[k]? = some (.cells cs 43 (0, 0))

set_option maxHeartbeats 1600000 in
theorem id_new (H mi bi bb bg : Nat) (g : Gr) (vu : Value) (s : ByteArray) (w : World) (hs : s.size ≤ maxLen) (h : CS w H mi bi bb bg g vu) (hE : bl g.E g.names.length = []) (hN : g.names.length ≤ 1024) (hx : ¬ ix g.names s < g.names.length) :
    Calls Try.prog 17 #[.string s, .pointer (some ⟨bi, 0, none⟩), .pointer (some ⟨bb, 0, none⟩), .pointer (some ⟨bg, 0, none⟩)] w fun e w' => IdNew w H mi bi bb bg g vu s e w' := by
  obtain ⟨D, hD, hM⟩ := h.map
  obtain ⟨ab, cpb, rows, h1, h2, h3⟩ := h.below
  obtain ⟨ag, cpg, h4, h5⟩ := h.granted
  have hxe : ix g.names s = g.names.length := by have := ix_le g.names s; omega
  have hadd := add_of_not hx
  have hl := look_id hs hD (hM.miss s hx) (Maps.atKey_of_not_has (hM.miss s hx) _)
  have c0 := cell_one h.ids
  have cb := cell_one h1
  have cg := cell_one h4
  obtain ⟨ib, hib, zb0, zb1, zb2⟩ := info_parts Try.info49
  obtain ⟨ig, hig, zg0, zg1, zg2⟩ := info_parts Try.info4
  obtain ⟨es, cl, hes, hesr⟩ := id hD
  have HX : Hid (ix g.names s = g.names.length ∧ g.add s = { g with names := g.names ++ [s], gr := g.gr ++ [false], us := g.us ++ [false] } ∧ ¬ ix g.names s < g.names.length ∧ MapOf D g.names ∧ bl g.E g.names.length = []) := ⟨hxe, hadd, hx, hM, hE⟩
  have HB : Hid (w.heap[bi]? = some (.cells #[.map (some mi)] 45 (0, 0)) ∧ w.heap[bb]? = some (.cells #[.slice ab g.names.length cpb] 46 (0, 0)) ∧ w.heap[bg]? = some (.cells #[.slice ag g.names.length cpg] 38 (0, 0)) ∧ w.heap[mi]? = some (.map es cl)) := ⟨h.ids, h1, h4, hes⟩
  have HR : Hid (RowsOk w H rows g.E vu ∧ w.ownsRow H 21 1 vu g.U.length (g.U.map i32)) := ⟨h3, h.users⟩
  have HI : Hid (H ≤ mi ∧ H ≤ bi ∧ H ≤ bb ∧ H ≤ bg) := h.hi
  have HO : Hid (w.ownsRow H 49 1 (.slice ab g.names.length cpb) g.names.length rows ∧ w.ownsRow H 4 1 (.slice ag g.names.length cpg) g.names.length (g.gr.map .bool)) := ⟨h2, h5⟩
  have HHs : H ≤ w.heap.size := by have := hD.lt; have := h.hi.1; omega
  clear hxe hadd hx hM h1 h2 h3 h4 h5 hes hesr h hE
  generalize hNN : g.names.length = N at *
  go_enter Try.func17, Try.ntmps17
  go_wp2_with (at_mapUpdate; refine wpList_mapUpdate_own _ rfl _ _ _ 45 rfl 9 21 Try.keyed9 Try.underlying45 _ mi N D rfl hD (by unfold maxLen; omega) _ _ (key s) rfl rfl (keyOf_string_mk Try.underlying9 hs) (.lit (.int .i32 (N : Int))) [] (plain21 _ (by omega)) ?_)
  intro w2 hM2 hg2
  clear c0 cb cg hl
  -- the blocks behind the store into the map
  have e2 : ∀ (k : Nat) (cs : Array Value) (t : TypeId), w.heap[k]? = some (.cells cs t (0, 0)) → w2.heap[k]? = some (.cells cs t (0, 0)) := fun k cs t hk => by
    rw [hg2.block k (heap_lt hk) (by simpa using ne_of_map hk HB.out.2.2.2)]; exact hk
  have o2 : ∀ {e : TypeId} {v : Value} {n : Nat} {xs : List Value}, w.ownsRow H e 1 v n xs → w2.ownsRow H e 1 v n xs := fun ho => ownsRow_congr ho (fun gg hgg => by
    obtain ⟨cs, hcs⟩ := ownsRow_block ho hgg
    rw [e2 _ _ _ hcs, hcs])
  have hob := o2 HO.out.1
  have cb2 := cell_one (e2 _ _ _ HB.out.2.1)
  have hHs2 : H ≤ w2.heap.size := Nat.le_trans HHs hg2.size
  have HE2 : Hid (∀ (k : Nat) (cs : Array Value) (t : TypeId), w.heap[k]? = some (.cells cs t (0, 0)) → w2.heap[k]? = some (.cells cs t (0, 0))) := e2
  have HG2 : Hid (w.grownBy w2 (some mi)) := hg2
  have HM2 : Hid (w2.ownsMap Try.prog 9 (plainElem Try.prog 21) mi (N + 1) (D.put (key s) (.lit (.int .i32 (N : Int))))) := hM2
  clear e2 o2 hg2 hM2
  go_wp2_with (at_builtin; refine wpList_append_lies _ rfl _ _ 46 rfl H 49 ib (.slice none 0 0) 1 24 Try.underlying46 hib zb0 zb1 zb2 rfl (by omega) (.slice ab N cpb) N rows rfl (hob.alloc _) ⟨w2.heap.size, 0, none⟩ 1 1 [.slice none 0 0] rfl rfl (news_one w2 _ 49) (by simp [Value.oneCell']) (by omega) (by unfold maxLen; omega) (by omega) (by simp; omega) (w2.heap.size + 1) (by simp) ?_)
  intro gb cb3 w3 hob3 hg3 hat3 hlt3
  have k3 : ∀ (k : Nat) (cs : Array Value) (t : TypeId), t ≠ 49 → w2.heap[k]? = some (.cells cs t (0, 0)) → w3.heap[k]? = some (.cells cs t (0, 0)) := fun k cs t ht hk => kept_types (hob.alloc _) hg3 (alloc_keep hk _) ht
  have hb3 := k3 _ _ _ (by decide) (HE2.out _ _ _ HB.out.2.1)
  have hgg3 := k3 _ _ _ (by decide) (HE2.out _ _ _ HB.out.2.2.1)
  have cb3' := cell_one hb3
  have fb3' := free_one hb3 0
  have hne : bg ≠ bb := ne_of_types hgg3 hb3 (by decide)
  have cg3 : (w3.setCell ⟨bb, 0, none⟩ (.slice (some ⟨gb, 0, none⟩) (N + 1) cb3)).cell? ⟨bg, 0, none⟩ = some (.slice ag N cpg) := cell_one (set_keep hgg3 _ _ hne)
  have k3' : ∀ (k : Nat) (cs : Array Value) (t : TypeId), t ≠ 49 → t ≠ 46 → w2.heap[k]? = some (.cells cs t (0, 0)) → (w3.setCell ⟨bb, 0, none⟩ (.slice (some ⟨gb, 0, none⟩) (N + 1) cb3)).heap[k]? = some (.cells cs t (0, 0)) := fun k cs t h1 h2 hk => set_keep (k3 k cs t h1 hk) _ _ (ne_of_types (k3 k cs t h1 hk) hb3 h2)
  have hog3 : (w3.setCell ⟨bb, 0, none⟩ (.slice (some ⟨gb, 0, none⟩) (N + 1) cb3)).ownsRow H 4 1 (.slice ag N cpg) N (g.gr.map .bool) := ownsRow_congr HO.out.2 (fun gg hgg => by
    obtain ⟨cs, hcs⟩ := ownsRow_block HO.out.2 hgg
    rw [k3' _ _ _ (by decide) (by decide) (HE2.out _ _ _ hcs), hcs])
  have hnw : ∀ (j : Nat) (u : Value), ([.bool false] : List Value)[j]? = some u → ((w3.setCell ⟨bb, 0, none⟩ (.slice (some ⟨gb, 0, none⟩) (N + 1) cb3)).alloc (.cells #[.bool false] 4)).cell? ((⟨w3.heap.size, 0, none⟩ : Addr).add j) = some u := by
    have := news_one (w3.setCell ⟨bb, 0, none⟩ (.slice (some ⟨gb, 0, none⟩) (N + 1) cb3)) (.bool false) 4
    simpa using this
  have hsz3 : w2.heap.size + 1 ≤ w3.heap.size := by have := hg3.size; simpa using this
  have HK3 : Hid (∀ (k : Nat) (cs : Array Value) (t : TypeId), t ≠ 49 → t ≠ 46 → w2.heap[k]? = some (.cells cs t (0, 0)) → (w3.setCell ⟨bb, 0, none⟩ (.slice (some ⟨gb, 0, none⟩) (N + 1) cb3)).heap[k]? = some (.cells cs t (0, 0))) := k3'
  have HOB3 : Hid (w3.ownsRow H 49 1 (.slice (some ⟨gb, 0, none⟩) (N + 1) cb3) (N + 1) (rows ++ [.slice none 0 0])) := hob3
  have HG3 : Hid ((w2.alloc (.cells #[.slice none 0 0] 49)).grownBy w3 (Value.slice ab N cpb).ownBlock) := hg3
  have HOB : Hid (w2.ownsRow H 49 1 (.slice ab N cpb) N rows) := hob
  have HB3 : Hid (w3.heap[bb]? = some (.cells #[.slice ab N cpb] 46 (0, 0))) := hb3
  have HG3' : Hid (w3.heap[bg]? = some (.cells #[.slice ag N cpg] 38 (0, 0))) := hgg3
  have HAT3 : Hid ((Value.slice ab N cpb).ownBlock = some gb ∨ gb = w2.heap.size + 1) := hat3
  clear k3 k3' hob3 hg3 hob hb3 hgg3 hat3 cb2
  go_wp2_with (at_builtin; refine wpList_append_lies _ rfl _ _ 38 rfl H 4 ig (.bool false) 1 1 Try.underlying38 hig zg0 zg1 zg2 rfl (by omega) (.slice ag N cpg) N (g.gr.map .bool) rfl (hog3.alloc _) ⟨w3.heap.size, 0, none⟩ 1 1 [.bool false] rfl rfl hnw (by simp [Value.oneCell']) (by omega) (by unfold maxLen; omega) (by omega) (by simp; omega) (w3.heap.size + 1) (by simp) ?_)
  intro gg cg4 w4 hog4 hg4 hat4 hlt4
  have k4 : ∀ (k : Nat) (cs : Array Value) (t : TypeId), t ≠ 4 → (w3.setCell ⟨bb, 0, none⟩ (.slice (some ⟨gb, 0, none⟩) (N + 1) cb3)).heap[k]? = some (.cells cs t (0, 0)) → w4.heap[k]? = some (.cells cs t (0, 0)) := fun k cs t ht hk => kept_types (hog3.alloc _) hg4 (alloc_keep hk _) ht
  have hgg4 := k4 _ _ _ (by decide) (set_keep HG3'.out ⟨bb, 0, none⟩ (.slice (some ⟨gb, 0, none⟩) (N + 1) cb3) hne)
  have k4' : ∀ (k : Nat) (cs : Array Value) (t : TypeId), t ≠ 4 → t ≠ 38 → (w3.setCell ⟨bb, 0, none⟩ (.slice (some ⟨gb, 0, none⟩) (N + 1) cb3)).heap[k]? = some (.cells cs t (0, 0)) → (w4.setCell ⟨bg, 0, none⟩ (.slice (some ⟨gg, 0, none⟩) (N + 1) cg4)).heap[k]? = some (.cells cs t (0, 0)) := fun k cs t h1 h2 hk => set_keep (k4 k cs t h1 hk) _ _ (ne_of_types (k4 k cs t h1 hk) hgg4 h2)
  have cg4' := cell_one hgg4
  have fg4' := free_one hgg4 0
  have hmi3 : (w3.setCell ⟨bb, 0, none⟩ (.slice (some ⟨gb, 0, none⟩) (N + 1) cb3)).heap[mi]? = w2.heap[mi]? := by
    obtain ⟨es2, cl2, hes2, _⟩ := HM2.out
    have e1 : w3.heap[mi]? = w2.heap[mi]? := by
      rw [kept_map (HOB.out.alloc _) HG3.out (alloc_keep hes2 _), alloc_keep hes2 _, hes2]
    rw [Below.heap_setCell _ _ _ _ (fun e => ne_of_map HB3.out (e1.trans hes2) e.symm)]
    exact e1
  have hmi4 : (w4.setCell ⟨bg, 0, none⟩ (.slice (some ⟨gg, 0, none⟩) (N + 1) cg4)).heap[mi]? = w2.heap[mi]? := by
    obtain ⟨es2, cl2, hes2, _⟩ := HM2.out
    have h3 := hmi3.trans hes2
    have e1 : w4.heap[mi]? = some (.map es2 cl2) := by
      rw [kept_map (hog3.alloc _) hg4 (alloc_keep h3 _), alloc_keep h3 _]
    rw [Below.heap_setCell _ _ _ _ (fun e => ne_of_map hgg4 e1 e.symm), e1, hes2]
  have hBel : Below H w (w4.setCell ⟨bg, 0, none⟩ (.slice (some ⟨gg, 0, none⟩) (N + 1) cg4)) := by
    have b2 : Below H w w2 := (Below.refl _ _).grown HG2.out HHs (by intro k hk; cases hk; exact HI.out.1)
    have b3 : Below H w w3 := (b2.alloc hHs2 _).grown HG3.out (by simp; omega) (fun k hk => ((HOB.out).lt k hk).1)
    have b3' : Below H w (w3.setCell ⟨bb, 0, none⟩ (.slice (some ⟨gb, 0, none⟩) (N + 1) cb3)) := b3.setCell HI.out.2.2.1 _
    have b4 : Below H w w4 := (b3'.alloc (by simp; omega) _).grown hg4 (by simp; omega) (fun k hk => (hog3.lt k hk).1)
    exact b4.setCell HI.out.2.2.2 _
  have kall : ∀ (k : Nat) (cs : Array Value) (t : TypeId), t ≠ 49 → t ≠ 46 → t ≠ 4 → t ≠ 38 → w.heap[k]? = some (.cells cs t (0, 0)) → (w4.setCell ⟨bg, 0, none⟩ (.slice (some ⟨gg, 0, none⟩) (N + 1) cg4)).heap[k]? = some (.cells cs t (0, 0)) := fun k cs t a1 a2 a3 a4 hk =>
    k4' k cs t a3 a4 (HK3.out k cs t a1 a2 (HE2.out k cs t hk))
  have hbbW : (w4.setCell ⟨bg, 0, none⟩ (.slice (some ⟨gg, 0, none⟩) (N + 1) cg4)).heap[bb]? = some (.cells #[(.slice (some ⟨gb, 0, none⟩) (N + 1) cb3)] 46 (0, 0)) := k4' _ _ _ (by decide) (by decide) (heap_set_one HB3.out)
  have hobW : (w4.setCell ⟨bg, 0, none⟩ (.slice (some ⟨gg, 0, none⟩) (N + 1) cg4)).ownsRow H 49 1 (.slice (some ⟨gb, 0, none⟩) (N + 1) cb3) (N + 1) (rows ++ [.slice none 0 0]) := ownsRow_congr HOB3.out (fun q hq => by
    obtain ⟨cs, hcs⟩ := ownsRow_block HOB3.out hq
    rw [k4' _ _ _ (by decide) (by decide) (set_keep hcs _ _ (ne_of_types hcs HB3.out (by decide))), hcs])
  have hogW : (w4.setCell ⟨bg, 0, none⟩ (.slice (some ⟨gg, 0, none⟩) (N + 1) cg4)).ownsRow H 4 1 (.slice (some ⟨gg, 0, none⟩) (N + 1) cg4) (N + 1) (g.gr.map .bool ++ [.bool false]) := ownsRow_congr hog4 (fun q hq => by
    obtain ⟨cs, hcs⟩ := ownsRow_block hog4 hq
    rw [set_keep hcs _ _ (ne_of_types hcs hgg4 (by decide)), hcs])
  have hrW : RowsOk (w4.setCell ⟨bg, 0, none⟩ (.slice (some ⟨gg, 0, none⟩) (N + 1) cg4)) H (rows ++ [.slice none 0 0]) g.E vu := by
    have hrl : rows.length = N := by have := HOB.out.1; omega
    exact (HR.out.1.congr (fun k cs hk => by rw [kall k cs 21 (by decide) (by decide) (by decide) (by decide) hk, hk])).snoc (by rw [hrl]; exact HX.out.2.2.2.2)
  have huW : (w4.setCell ⟨bg, 0, none⟩ (.slice (some ⟨gg, 0, none⟩) (N + 1) cg4)).ownsRow H 21 1 vu g.U.length (g.U.map i32) := ownsRow_congr HR.out.2 (fun q hq => by
    obtain ⟨cs, hcs⟩ := ownsRow_block HR.out.2 hq
    rw [kall _ _ _ (by decide) (by decide) (by decide) (by decide) hcs, hcs])
  have FIN : Hid (Below H w (w4.setCell ⟨bg, 0, none⟩ (.slice (some ⟨gg, 0, none⟩) (N + 1) cg4)) ∧ CS (w4.setCell ⟨bg, 0, none⟩ (.slice (some ⟨gg, 0, none⟩) (N + 1) cg4)) H mi bi bb bg (g.add s) vu ∧ ∀ (k : Nat) (cs : Array Value), w.heap[k]? = some (.cells cs 43 (0, 0)) → (w4.setCell ⟨bg, 0, none⟩ (.slice (some ⟨gg, 0, none⟩) (N + 1) cg4)).heap[k]? = some (.cells cs 43 (0, 0))) := by
    refine ⟨hBel, ?_, fun k cs hk => kall k cs 43 (by decide) (by decide) (by decide) (by decide) hk⟩
    rw [HX.out.2.1]
    have hlen : (g.names ++ [s]).length = N + 1 := by simp [hNN]
    refine ⟨HI.out, kall _ _ _ (by decide) (by decide) (by decide) (by decide) HB.out.1, ⟨D.put (key s) (.lit (.int .i32 (N : Int))), ?_, ?_⟩, ⟨some ⟨gb, 0, none⟩, cb3, rows ++ [.slice none 0 0], ?_, ?_, hrW⟩, ⟨some ⟨gg, 0, none⟩, cg4, ?_, ?_⟩, huW⟩
    · show World.ownsMap _ _ _ _ _ (g.names ++ [s]).length _
      rw [hlen]
      exact ownsMap_congr HM2.out hmi4
    · have := HX.out.2.2.2.1.put (s := s) (by rw [hNN]; exact HX.out.2.2.1)
      rw [hNN] at this
      exact this
    · show _ = some (Obj.cells #[Value.slice _ (g.names ++ [s]).length _] 46 (0, 0))
      rw [hlen]; exact hbbW
    · show World.ownsRow _ _ _ _ (Value.slice _ (g.names ++ [s]).length _) (g.names ++ [s]).length _
      rw [hlen]; exact hobW
    · show _ = some (Obj.cells #[Value.slice _ (g.names ++ [s]).length _] 38 (0, 0))
      rw [hlen]; exact heap_set_one hgg4
    · show World.ownsRow _ _ _ _ (Value.slice _ (g.names ++ [s]).length _) (g.names ++ [s]).length ((g.gr ++ [false]).map .bool)
      rw [hlen, List.map_append]; exact hogW
  have HXE : Hid (ix g.names s = N) := HX.out.1
  clear k4 k4' hgg4 hmi3 hmi4 hBel kall hbbW hobW hogW hrW huW hog4 hg4 hat4 hlt4 hog3 hnw cg3 cb3' fb3' HX HB HR HI HO HE2 HG2 HM2 HK3 HOB3 HG3 HOB HB3 HG3' HAT3
  go_wp2
  go_ret
  exact ⟨ret_int (by rw [HXE.out]), FIN.out⟩

/-- The closure 'id', whatever the name. -/
theorem id_any (H mi bi bb bg : Nat) (g : Gr) (vu : Value) (s : ByteArray) (w : World) (hs : s.size ≤ maxLen) (h : CS w H mi bi bb bg g vu) (hE : bl g.E g.names.length = []) (hN : g.names.length ≤ 1024) :
    Calls Try.prog 17 #[.string s, .pointer (some ⟨bi, 0, none⟩), .pointer (some ⟨bb, 0, none⟩), .pointer (some ⟨bg, 0, none⟩)] w fun e w' => IdNew w H mi bi bb bg g vu s e w' := by
  by_cases hx : ix g.names s < g.names.length
  · refine (id_old H mi bi bb bg g vu s w hs h hx).mono ?_
    rintro e w' ⟨he, rfl⟩
    exact ⟨he, Below.refl _ _, by rw [add_names_of_lt hx]; exact h, fun k cs hk => hk⟩
  · exact id_new H mi bi bb bg g vu s w hs h hE hN hx
end Go.Proofs.Qxb6601564a
