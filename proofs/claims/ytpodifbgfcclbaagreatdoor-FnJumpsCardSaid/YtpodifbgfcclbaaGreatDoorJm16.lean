/- stmtBranches: what has lists inside. -/
import Derived.Test.YtpodifbgfcclbaaGreatDoorJm15
set_option linter.unusedVariables false
set_option linter.unusedSimpArgs false
namespace Go.Proofs.YtpodifbgfcclbaaGreatDoor
open Go.RowKit
attribute [local go_sem] Nat.lt_add_one_of_lt

def SW (w0 w : World) (H0 : Nat) : Prop := ∀ j, j < H0 → w.heap[j]? = w0.heap[j]?
def CurOk (lo H0 : Nat) (w0 : World) (gd : GD) (cur : CUR) : Prop := ∀ x, cur = some x → LS w0 lo H0 x.1 x.2.1 x.2.2 ∧ x.2.1 ∈ keysG gd
/-- What stmtBranches does at a value, wherever it is called. -/
def ItemC (lo H0 C A M0 : Nat) (w0 : World) (up : List BE) (lst cur : CUR) (v : Value) (J : JS → JS) (nodes : List Nat) (cnt : Nat) : Prop :=
  (∀ s, (J s).m ≤ s.m + cnt) ∧ ∀ (n : Nat) (gd : GD) (rep : Nat) (labs : List Int) (fs : List (Nat × Int)) (bs : List Nat) (w : World), LSt lo H0 C A M0 n up lst gd rep labs fs bs w → SW w0 w H0 → CurOk lo H0 w0 gd cur → fs.length + rep + cnt ≤ 100000 → (∀ a ∈ nodes, ¬ a ∈ bs ∧ ¬ a ∈ fs.map Prod.fst) →
    Calls Tryz.prog 76 #[ptr (cur.map fun x => x.1), v, .pointer (some ⟨n + 7, 0, none⟩), .pointer (some ⟨n, 0, none⟩), .pointer (some ⟨n + 1, 0, none⟩), .pointer (some ⟨n + 3, 0, none⟩), .pointer (some ⟨n + 5, 0, none⟩), .pointer (some ⟨n + 8, 0, none⟩), .pointer (some ⟨n + 4, 0, none⟩), .pointer (some ⟨n + 10, 0, none⟩), .pointer (some ⟨n + 9, 0, none⟩)] w (StmR lo H0 C A M0 n up lst gd rep labs fs bs J nodes w)
/-- What blockBranches does at a list, wherever it is called. -/
def BlkC (lo H0 C A M0 : Nat) (w0 : World) (es : List BE) (cur : CUR) (sa : Option Addr) (m cap : Nat) (F : JS → JS) (nodes : List Nat) (cnt : Nat) : Prop :=
  (∀ s, (F s).m ≤ s.m + cnt) ∧ ∀ (gd : GD) (rep : Nat) (w : World), GSt H0 C A M0 gd rep w → Ch w lo H0 M0 w.heap.size es → SW w0 w H0 → CurOk lo H0 w0 gd cur → (∀ l ∈ glB es, l ∈ keysG gd) → (∀ x ∈ tgB es, x.1 ∈ keysG gd) → M0 < w.heap.size → rep + cnt ≤ 100000 →
    Calls Tryz.prog 57 #[.pointer (some ⟨C, 0, none⟩), .pointer (some ⟨A, 0, none⟩), ptr (headB es), ptr (cur.map fun x => x.1), .slice sa m cap] w (BlkR lo H0 C A M0 F nodes gd rep w)
theorem SW.cell {w0 w : World} {H0 : Nat} (h : SW w0 w H0) {a : Nat} (ha : a < H0) (o : Nat) : w.cell? ⟨a, o, none⟩ = w0.cell? ⟨a, o, none⟩ := World.cell?_of_block (w := w0) (h a ha)
theorem LS.sw {w0 w : World} {lo H0 s : Nat} {n k : Int} (h : LS w0 lo H0 s n k) (hs : SW w0 w H0) : LS w lo H0 s n k := h.keep hs
theorem LSt.drew {lo H0 C A M0 n : Nat} {up : List BE} {lst : CUR} {gd : GD} {rep : Nat} {labs : List Int} {fs : List (Nat × Int)} {bs : List Nat} {w : World} (h : LSt lo H0 C A M0 n up lst gd rep labs fs bs w) : LSt lo H0 C A M0 n up lst gd rep labs fs bs w.drew :=
  h.nested h.g.drew (GF.refl _ _ _ w).drew fun _ h => h
theorem LSt.keys {lo H0 C A M0 n : Nat} {up : List BE} {lst : CUR} {gd : GD} {rep : Nat} {labs : List Int} {fs : List (Nat × Int)} {bs : List Nat} {w : World} (h : LSt lo H0 C A M0 n up lst gd rep labs fs bs w) : ∀ l ∈ glB (⟨n + 2, labs, lst⟩ :: up), l ∈ keysG gd := by
  intro l hl
  rw [glB, List.flatMap_cons, List.mem_append] at hl
  rcases hl with hl | hl
  · exact h.sl l hl
  · exact h.sg l hl
theorem BlkC.at {lo H0 C A M0 n : Nat} {w0 : World} {up : List BE} {lst cur : CUR} {sa : Option Addr} {m cap : Nat} {F : JS → JS} {nodes : List Nat} {cnt : Nat} {gd : GD} {rep : Nat} {labs : List Int} {fs : List (Nat × Int)} {bs : List Nat} {w : World} (hb : BlkC lo H0 C A M0 w0 (⟨n + 2, labs, lst⟩ :: up) cur sa m cap F nodes cnt)
    (h : LSt lo H0 C A M0 n up lst gd rep labs fs bs w) (hs : SW w0 w H0) (hc : CurOk lo H0 w0 gd cur) (hcap : rep + cnt ≤ 100000) :
    Calls Tryz.prog 57 #[.pointer (some ⟨C, 0, none⟩), .pointer (some ⟨A, 0, none⟩), .pointer (some ⟨n + 2, 0, none⟩), ptr (cur.map fun x => x.1), .slice sa m cap] w (BlkR lo H0 C A M0 F nodes gd rep w) :=
  hb.2 gd rep w h.g h.chain hs hc h.keys h.st h.g.map.lt hcap
set_option maxRecDepth 100000 in
set_option maxHeartbeats 4000000 in
theorem item_block (lo H0 C A M0 : Nat) (w0 : World) (up : List BE) (lst cur : CUR) (a : Nat) (sa : Option Addr) (m cap : Nat) (F : List Int → JS → JS) (nodes : List Nat) (cnt : Nat) (ha : a < H0) (h1 : w0.cell? ⟨a, 1, none⟩ = some (.slice sa m cap))
    (hblk : ∀ n labs, BlkC lo H0 C A M0 w0 (⟨n + 2, labs, lst⟩ :: up) cur sa m cap (F labs) nodes cnt) : ItemC lo H0 C A M0 w0 up lst cur (.iface 50 (.pointer (some ⟨a, 0, none⟩))) (fun s => outL s (F s.labs (inL s))) nodes cnt := by
  refine ⟨fun s => outL_m s _ _ ((hblk 0 s.labs).1 (inL s)), ?_⟩
  intro n gd rep labs fs bs w h hsw hcur hcap hfr
  have c1 := (hsw.cell ha 1).trans h1
  have la := World.block_lt_of_cell? w _ c1
  have hfc := h.fc
  have hH := h.hH
  have l9 : n + 9 < w.heap.size := (Array.getElem?_eq_some_iff.1 hfc.z9).1
  have c9 : ∀ o, w.cell? ⟨n + 9, o, none⟩ = _ := blk_cell hfc.z9
  have hc := (hblk n labs).at h.drew.drew hsw hcur (by omega)
  have hn := nest_any lo H0 C A M0 n (F labs) nodes cnt m up lst cur gd rep labs fs bs sa cap w.drew h.drew hc (hblk n labs).1 hcap (fun a h => (hfr a h).1)
  have HN := Lib.hid hn
  clear h hfc hn hc hblk hfr hcur hsw h1
  go_enter Tryz.func76, Tryz.ntmps76
  go_wp2_with fail
  go_region_law (first | (go_simp; go_at_call 75; refine (HN.out).mono ?_; rintro e w1 ⟨rfl, gd', rep', fs', q1, q2, q3, q4, q5⟩))
  all_goals
    go_wp2_with fail
    go_end0
    exact ⟨rfl, gd', rep', labs, fs ++ fs', bs, q1, (GF.refl _ _ _ w).drew.trans q2, q3, fun a ha => by
      simp only [List.map_append, List.mem_append] at ha
      rcases ha with (ha | ha) | ha
      · exact .inl ha
      · obtain ⟨x, hx, rfl⟩ := List.mem_map.1 ha
        exact .inr (.inr (q4 x hx))
      · exact .inr (.inl ha), q5⟩
set_option maxRecDepth 100000 in
set_option maxHeartbeats 4000000 in
theorem item_case (lo H0 C A M0 : Nat) (w0 : World) (up : List BE) (lst cur : CUR) (a : Nat) (sa : Option Addr) (m cap : Nat) (F : List Int → JS → JS) (nodes : List Nat) (cnt : Nat) (ha : a < H0) (h1 : w0.cell? ⟨a, 3, none⟩ = some (.slice sa m cap))
    (hblk : ∀ n labs, BlkC lo H0 C A M0 w0 (⟨n + 2, labs, lst⟩ :: up) none sa m cap (F labs) nodes cnt) : ItemC lo H0 C A M0 w0 up lst cur (.iface 192 (.pointer (some ⟨a, 0, none⟩))) (fun s => outL s (F s.labs (inL s))) nodes cnt := by
  refine ⟨fun s => outL_m s _ _ ((hblk 0 s.labs).1 (inL s)), ?_⟩
  intro n gd rep labs fs bs w h hsw hcur hcap hfr
  have c1 := (hsw.cell ha 3).trans h1
  have la := World.block_lt_of_cell? w _ c1
  have hfc := h.fc
  have hH := h.hH
  have l9 : n + 9 < w.heap.size := (Array.getElem?_eq_some_iff.1 hfc.z9).1
  have c9 : ∀ o, w.cell? ⟨n + 9, o, none⟩ = _ := blk_cell hfc.z9
  have hc := (hblk n labs).at h.drew.drew hsw (fun x h => by cases h) (by omega)
  have hn := nest_any lo H0 C A M0 n (F labs) nodes cnt m up lst none gd rep labs fs bs sa cap w.drew h.drew hc (hblk n labs).1 hcap (fun a h => (hfr a h).1)
  have HN := Lib.hid hn
  clear h hfc hn hc hblk hfr hcur hsw h1
  go_enter Tryz.func76, Tryz.ntmps76
  go_wp2_with fail
  go_region_law (first | (go_simp; go_at_call 75; refine (HN.out).mono ?_; rintro e w1 ⟨rfl, gd', rep', fs', q1, q2, q3, q4, q5⟩))
  all_goals
    go_wp2_with fail
    go_end0
    exact ⟨rfl, gd', rep', labs, fs ++ fs', bs, q1, (GF.refl _ _ _ w).drew.trans q2, q3, fun a ha => by
      simp only [List.map_append, List.mem_append] at ha
      rcases ha with (ha | ha) | ha
      · exact .inl ha
      · obtain ⟨x, hx, rfl⟩ := List.mem_map.1 ha
        exact .inr (.inr (q4 x hx))
      · exact .inr (.inl ha), q5⟩
set_option maxRecDepth 100000 in
set_option maxHeartbeats 4000000 in
theorem item_comm (lo H0 C A M0 : Nat) (w0 : World) (up : List BE) (lst cur : CUR) (a : Nat) (sa : Option Addr) (m cap : Nat) (F : List Int → JS → JS) (nodes : List Nat) (cnt : Nat) (ha : a < H0) (h1 : w0.cell? ⟨a, 3, none⟩ = some (.slice sa m cap))
    (hblk : ∀ n labs, BlkC lo H0 C A M0 w0 (⟨n + 2, labs, lst⟩ :: up) none sa m cap (F labs) nodes cnt) : ItemC lo H0 C A M0 w0 up lst cur (.iface 195 (.pointer (some ⟨a, 0, none⟩))) (fun s => outL s (F s.labs (inL s))) nodes cnt := by
  refine ⟨fun s => outL_m s _ _ ((hblk 0 s.labs).1 (inL s)), ?_⟩
  intro n gd rep labs fs bs w h hsw hcur hcap hfr
  have c1 := (hsw.cell ha 3).trans h1
  have la := World.block_lt_of_cell? w _ c1
  have hfc := h.fc
  have hH := h.hH
  have l9 : n + 9 < w.heap.size := (Array.getElem?_eq_some_iff.1 hfc.z9).1
  have c9 : ∀ o, w.cell? ⟨n + 9, o, none⟩ = _ := blk_cell hfc.z9
  have hc := (hblk n labs).at h.drew.drew hsw (fun x h => by cases h) (by omega)
  have hn := nest_any lo H0 C A M0 n (F labs) nodes cnt m up lst none gd rep labs fs bs sa cap w.drew h.drew hc (hblk n labs).1 hcap (fun a h => (hfr a h).1)
  have HN := Lib.hid hn
  clear h hfc hn hc hblk hfr hcur hsw h1
  go_enter Tryz.func76, Tryz.ntmps76
  go_wp2_with fail
  go_region_law (first | (go_simp; go_at_call 75; refine (HN.out).mono ?_; rintro e w1 ⟨rfl, gd', rep', fs', q1, q2, q3, q4, q5⟩))
  all_goals
    go_wp2_with fail
    go_end0
    exact ⟨rfl, gd', rep', labs, fs ++ fs', bs, q1, (GF.refl _ _ _ w).drew.trans q2, q3, fun a ha => by
      simp only [List.map_append, List.mem_append] at ha
      rcases ha with (ha | ha) | ha
      · exact .inl ha
      · obtain ⟨x, hx, rfl⟩ := List.mem_map.1 ha
        exact .inr (.inr (q4 x hx))
      · exact .inr (.inl ha), q5⟩
set_option maxRecDepth 100000 in
set_option maxHeartbeats 4000000 in
theorem item_for (lo H0 C A M0 : Nat) (w0 : World) (up : List BE) (lst cur : CUR) (a a1 : Nat) (J : JS → JS) (nodes : List Nat) (cnt : Nat) (ha : a < H0) (h1 : w0.cell? ⟨a, 4, none⟩ = some (.pointer (some ⟨a1, 0, none⟩)))
    (hit : ItemC lo H0 C A M0 w0 up lst cur (.iface 50 (.pointer (some ⟨a1, 0, none⟩))) J nodes cnt) : ItemC lo H0 C A M0 w0 up lst cur (.iface 130 (.pointer (some ⟨a, 0, none⟩))) J nodes cnt := by
  refine ⟨hit.1, ?_⟩
  intro n gd rep labs fs bs w h hsw hcur hcap hfr
  have c1 := (hsw.cell ha 4).trans h1
  have la := World.block_lt_of_cell? w _ c1
  have hfc := h.fc
  have hH := h.hH
  have l10 : n + 10 < w.heap.size := (Array.getElem?_eq_some_iff.1 hfc.z10).1
  have c10 : ∀ o, w.cell? ⟨n + 10, o, none⟩ = _ := blk_cell hfc.z10
  have hn := hit.2 n gd rep labs fs bs w.drew h.drew hsw hcur hcap hfr
  have HN := Lib.hid hn
  clear h hfc hn hit hfr hcur hsw h1
  go_enter Tryz.func76, Tryz.ntmps76
  go_wp2_with fail
  go_region_law (first | (go_simp; go_at_call 76; refine (HN.out).mono ?_; rintro e w1 ⟨rfl, gd', rep', labs', fs', bs', q1, q2, q3, q4, q5⟩))
  all_goals
    go_wp2_with fail
    go_end0
    exact ⟨rfl, gd', rep', labs', fs', bs', q1, (GF.refl _ _ _ w).drew.trans q2, q3, q4, q5⟩
set_option maxRecDepth 100000 in
set_option maxHeartbeats 4000000 in
theorem item_range (lo H0 C A M0 : Nat) (w0 : World) (up : List BE) (lst cur : CUR) (a a1 : Nat) (J : JS → JS) (nodes : List Nat) (cnt : Nat) (ha : a < H0) (h1 : w0.cell? ⟨a, 7, none⟩ = some (.pointer (some ⟨a1, 0, none⟩)))
    (hit : ItemC lo H0 C A M0 w0 up lst cur (.iface 50 (.pointer (some ⟨a1, 0, none⟩))) J nodes cnt) : ItemC lo H0 C A M0 w0 up lst cur (.iface 133 (.pointer (some ⟨a, 0, none⟩))) J nodes cnt := by
  refine ⟨hit.1, ?_⟩
  intro n gd rep labs fs bs w h hsw hcur hcap hfr
  have c1 := (hsw.cell ha 7).trans h1
  have la := World.block_lt_of_cell? w _ c1
  have hfc := h.fc
  have hH := h.hH
  have l10 : n + 10 < w.heap.size := (Array.getElem?_eq_some_iff.1 hfc.z10).1
  have c10 : ∀ o, w.cell? ⟨n + 10, o, none⟩ = _ := blk_cell hfc.z10
  have hn := hit.2 n gd rep labs fs bs w.drew h.drew hsw hcur hcap hfr
  have HN := Lib.hid hn
  clear h hfc hn hit hfr hcur hsw h1
  go_enter Tryz.func76, Tryz.ntmps76
  go_wp2_with fail
  go_region_law (first | (go_simp; go_at_call 76; refine (HN.out).mono ?_; rintro e w1 ⟨rfl, gd', rep', labs', fs', bs', q1, q2, q3, q4, q5⟩))
  all_goals
    go_wp2_with fail
    go_end0
    exact ⟨rfl, gd', rep', labs', fs', bs', q1, (GF.refl _ _ _ w).drew.trans q2, q3, q4, q5⟩
set_option maxRecDepth 100000 in
set_option maxHeartbeats 4000000 in
theorem item_switch (lo H0 C A M0 : Nat) (w0 : World) (up : List BE) (lst cur : CUR) (a a1 : Nat) (J : JS → JS) (nodes : List Nat) (cnt : Nat) (ha : a < H0) (h1 : w0.cell? ⟨a, 3, none⟩ = some (.pointer (some ⟨a1, 0, none⟩)))
    (hit : ItemC lo H0 C A M0 w0 up lst cur (.iface 50 (.pointer (some ⟨a1, 0, none⟩))) J nodes cnt) : ItemC lo H0 C A M0 w0 up lst cur (.iface 137 (.pointer (some ⟨a, 0, none⟩))) J nodes cnt := by
  refine ⟨hit.1, ?_⟩
  intro n gd rep labs fs bs w h hsw hcur hcap hfr
  have c1 := (hsw.cell ha 3).trans h1
  have la := World.block_lt_of_cell? w _ c1
  have hfc := h.fc
  have hH := h.hH
  have l10 : n + 10 < w.heap.size := (Array.getElem?_eq_some_iff.1 hfc.z10).1
  have c10 : ∀ o, w.cell? ⟨n + 10, o, none⟩ = _ := blk_cell hfc.z10
  have hn := hit.2 n gd rep labs fs bs w.drew h.drew hsw hcur hcap hfr
  have HN := Lib.hid hn
  clear h hfc hn hit hfr hcur hsw h1
  go_enter Tryz.func76, Tryz.ntmps76
  go_wp2_with fail
  go_region_law (first | (go_simp; go_at_call 76; refine (HN.out).mono ?_; rintro e w1 ⟨rfl, gd', rep', labs', fs', bs', q1, q2, q3, q4, q5⟩))
  all_goals
    go_wp2_with fail
    go_end0
    exact ⟨rfl, gd', rep', labs', fs', bs', q1, (GF.refl _ _ _ w).drew.trans q2, q3, q4, q5⟩
set_option maxRecDepth 100000 in
set_option maxHeartbeats 4000000 in
theorem item_tswitch (lo H0 C A M0 : Nat) (w0 : World) (up : List BE) (lst cur : CUR) (a a1 : Nat) (J : JS → JS) (nodes : List Nat) (cnt : Nat) (ha : a < H0) (h1 : w0.cell? ⟨a, 3, none⟩ = some (.pointer (some ⟨a1, 0, none⟩)))
    (hit : ItemC lo H0 C A M0 w0 up lst cur (.iface 50 (.pointer (some ⟨a1, 0, none⟩))) J nodes cnt) : ItemC lo H0 C A M0 w0 up lst cur (.iface 141 (.pointer (some ⟨a, 0, none⟩))) J nodes cnt := by
  refine ⟨hit.1, ?_⟩
  intro n gd rep labs fs bs w h hsw hcur hcap hfr
  have c1 := (hsw.cell ha 3).trans h1
  have la := World.block_lt_of_cell? w _ c1
  have hfc := h.fc
  have hH := h.hH
  have l10 : n + 10 < w.heap.size := (Array.getElem?_eq_some_iff.1 hfc.z10).1
  have c10 : ∀ o, w.cell? ⟨n + 10, o, none⟩ = _ := blk_cell hfc.z10
  have hn := hit.2 n gd rep labs fs bs w.drew h.drew hsw hcur hcap hfr
  have HN := Lib.hid hn
  clear h hfc hn hit hfr hcur hsw h1
  go_enter Tryz.func76, Tryz.ntmps76
  go_wp2_with fail
  go_region_law (first | (go_simp; go_at_call 76; refine (HN.out).mono ?_; rintro e w1 ⟨rfl, gd', rep', labs', fs', bs', q1, q2, q3, q4, q5⟩))
  all_goals
    go_wp2_with fail
    go_end0
    exact ⟨rfl, gd', rep', labs', fs', bs', q1, (GF.refl _ _ _ w).drew.trans q2, q3, q4, q5⟩
set_option maxRecDepth 100000 in
set_option maxHeartbeats 4000000 in
theorem item_select (lo H0 C A M0 : Nat) (w0 : World) (up : List BE) (lst cur : CUR) (a a1 : Nat) (J : JS → JS) (nodes : List Nat) (cnt : Nat) (ha : a < H0) (h1 : w0.cell? ⟨a, 1, none⟩ = some (.pointer (some ⟨a1, 0, none⟩)))
    (hit : ItemC lo H0 C A M0 w0 up lst cur (.iface 50 (.pointer (some ⟨a1, 0, none⟩))) J nodes cnt) : ItemC lo H0 C A M0 w0 up lst cur (.iface 147 (.pointer (some ⟨a, 0, none⟩))) J nodes cnt := by
  refine ⟨hit.1, ?_⟩
  intro n gd rep labs fs bs w h hsw hcur hcap hfr
  have c1 := (hsw.cell ha 1).trans h1
  have la := World.block_lt_of_cell? w _ c1
  have hfc := h.fc
  have hH := h.hH
  have l10 : n + 10 < w.heap.size := (Array.getElem?_eq_some_iff.1 hfc.z10).1
  have c10 : ∀ o, w.cell? ⟨n + 10, o, none⟩ = _ := blk_cell hfc.z10
  have hn := hit.2 n gd rep labs fs bs w.drew h.drew hsw hcur hcap hfr
  have HN := Lib.hid hn
  clear h hfc hn hit hfr hcur hsw h1
  go_enter Tryz.func76, Tryz.ntmps76
  go_wp2_with fail
  go_region_law (first | (go_simp; go_at_call 76; refine (HN.out).mono ?_; rintro e w1 ⟨rfl, gd', rep', labs', fs', bs', q1, q2, q3, q4, q5⟩))
  all_goals
    go_wp2_with fail
    go_end0
    exact ⟨rfl, gd', rep', labs', fs', bs', q1, (GF.refl _ _ _ w).drew.trans q2, q3, q4, q5⟩
end Go.Proofs.YtpodifbgfcclbaaGreatDoor
