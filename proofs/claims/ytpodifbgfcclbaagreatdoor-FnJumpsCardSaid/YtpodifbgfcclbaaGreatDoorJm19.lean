/- stmtBranches: if. -/
import Derived.Test.YtpodifbgfcclbaaGreatDoorJm16
set_option linter.unusedVariables false
set_option linter.unusedSimpArgs false
namespace Go.Proofs.YtpodifbgfcclbaaGreatDoor
open Go.RowKit
attribute [local go_sem] Nat.lt_add_one_of_lt

set_option maxRecDepth 100000 in
set_option maxHeartbeats 4000000 in
theorem item_if1 (lo H0 C A M0 : Nat) (w0 : World) (up : List BE) (lst cur : CUR) (a a1 : Nat) (J : JS → JS) (nodes : List Nat) (cnt : Nat) (ha : a < H0) (h1 : w0.cell? ⟨a, 3, none⟩ = some (.pointer (some ⟨a1, 0, none⟩))) (h2 : w0.cell? ⟨a, 4, none⟩ = some .nilIface)
    (hit : ItemC lo H0 C A M0 w0 up lst cur (.iface 50 (.pointer (some ⟨a1, 0, none⟩))) J nodes cnt) : ItemC lo H0 C A M0 w0 up lst cur (.iface 126 (.pointer (some ⟨a, 0, none⟩))) J nodes cnt := by
  refine ⟨hit.1, ?_⟩
  intro n gd rep labs fs bs w h hsw hcur hcap hfr
  have c1 := (hsw.cell ha 3).trans h1
  have la := World.block_lt_of_cell? w _ c1
  have hfc := h.fc
  have hH := h.hH
  have l10 : n + 10 < w.heap.size := (Array.getElem?_eq_some_iff.1 hfc.z10).1
  have c10 : ∀ o, w.cell? ⟨n + 10, o, none⟩ = _ := blk_cell hfc.z10
  have hn := hit.2 n gd rep labs fs bs w.drew h.drew hsw hcur hcap hfr
  have HN := Lib.hid hn
  have HSW := Lib.hid hsw
  have H2 := Lib.hid h2
  clear h hfc hn hit hfr hcur h1 hsw h2
  go_enter Tryz.func76, Tryz.ntmps76
  go_wp2_with fail
  go_region_law (first | (go_simp; go_at_call 76; refine (HN.out).mono ?_; rintro e w1 ⟨rfl, gd', rep', labs', fs', bs', q1, q2, q3, q4, q5⟩))
  all_goals
    have hlow : ∀ o, w1.cell? ⟨a, o, none⟩ = w0.cell? ⟨a, o, none⟩ := fun o => (World.cell?_of_block (w := w.drew) (q2.low a ha)).trans (HSW.out.cell ha o)
    have c4 := (hlow 4).trans H2.out
    have la2 := World.block_lt_of_cell? w1 _ c4
    clear hlow
    go_wp2_with fail
    go_end0
    exact ⟨rfl, gd', rep', labs', fs', bs', q1, (GF.refl _ _ _ w).drew.trans q2, q3, q4, q5⟩
set_option maxRecDepth 100000 in
set_option maxHeartbeats 4000000 in
theorem item_if2 (lo H0 C A M0 : Nat) (w0 : World) (up : List BE) (lst cur : CUR) (a a1 a2 : Nat) (J J2 : JS → JS) (nodes nodes2 : List Nat) (cnt cnt2 : Nat) (ha : a < H0) (h1 : w0.cell? ⟨a, 3, none⟩ = some (.pointer (some ⟨a1, 0, none⟩))) (h2 : w0.cell? ⟨a, 4, none⟩ = some (.iface 50 (.pointer (some ⟨a2, 0, none⟩))))
    (hdis : ∀ x ∈ nodes2, ¬ x ∈ nodes) (hit : ItemC lo H0 C A M0 w0 up lst cur (.iface 50 (.pointer (some ⟨a1, 0, none⟩))) J nodes cnt) (hit2 : ItemC lo H0 C A M0 w0 up lst cur (.iface 50 (.pointer (some ⟨a2, 0, none⟩))) J2 nodes2 cnt2) :
    ItemC lo H0 C A M0 w0 up lst cur (.iface 126 (.pointer (some ⟨a, 0, none⟩))) (fun s => J2 (J s)) (nodes ++ nodes2) (cnt + cnt2) := by
  refine ⟨fun s => by have e1 := hit.1 s; have e2 := hit2.1 (J s); show (J2 (J s)).m ≤ _; omega, ?_⟩
  intro n gd rep labs fs bs w h hsw hcur hcap hfr
  have c1 := (hsw.cell ha 3).trans h1
  have la := World.block_lt_of_cell? w _ c1
  have hfc := h.fc
  have hH := h.hH
  have l10 : n + 10 < w.heap.size := (Array.getElem?_eq_some_iff.1 hfc.z10).1
  have c10 : ∀ o, w.cell? ⟨n + 10, o, none⟩ = _ := blk_cell hfc.z10
  have hn := hit.2 n gd rep labs fs bs w.drew h.drew hsw hcur (by omega) (fun a ha => hfr a (List.mem_append_left _ ha))
  have hsec : ∀ (w1 : World) (gd' : GD) (rep' : Nat) (labs' : List Int) (fs' : List (Nat × Int)) (bs' : List Nat), LSt lo H0 C A M0 n up lst gd' rep' labs' fs' bs' w1 → GF H0 M0 n w.drew w1 → (∀ l ∈ keysG gd, l ∈ keysG gd') → (∀ a, a ∈ fs'.map Prod.fst ∨ a ∈ bs' → a ∈ fs.map Prod.fst ∨ a ∈ bs ∨ a ∈ nodes) → jsOf gd' rep' labs' fs' bs' = J (jsOf gd rep labs fs bs) →
      Calls Tryz.prog 76 #[ptr (cur.map fun x => x.1), .iface 50 (.pointer (some ⟨a2, 0, none⟩)), .pointer (some ⟨n + 7, 0, none⟩), .pointer (some ⟨n, 0, none⟩), .pointer (some ⟨n + 1, 0, none⟩), .pointer (some ⟨n + 3, 0, none⟩), .pointer (some ⟨n + 5, 0, none⟩), .pointer (some ⟨n + 8, 0, none⟩), .pointer (some ⟨n + 4, 0, none⟩), .pointer (some ⟨n + 10, 0, none⟩), .pointer (some ⟨n + 9, 0, none⟩)] w1.drew (StmR lo H0 C A M0 n up lst gd' rep' labs' fs' bs' J2 nodes2 w1.drew) := by
    intro w1 gd' rep' labs' fs' bs' q1 q2 q3 q4 q5
    refine hit2.2 n gd' rep' labs' fs' bs' w1.drew q1.drew (fun j hj => (q2.low j hj).trans (hsw j hj)) (fun x hx => ⟨(hcur x hx).1, q3 _ (hcur x hx).2⟩) ?_ ?_
    · have e1 := hit.1 (jsOf gd rep labs fs bs)
      rw [← q5] at e1
      simp only [jsOf, JS.m, List.length_map] at e1
      omega
    · intro x hx
      have e1 := hfr x (List.mem_append_right _ hx)
      have e2 := hdis x hx
      refine ⟨fun hh => ?_, fun hh => ?_⟩
      · rcases q4 x (.inr hh) with g | g | g
        · exact e1.2 g
        · exact e1.1 g
        · exact e2 g
      · rcases q4 x (.inl hh) with g | g | g
        · exact e1.2 g
        · exact e1.1 g
        · exact e2 g
  have HN := Lib.hid hn
  have HSEC := Lib.hid hsec
  have HSW := Lib.hid hsw
  have H2 := Lib.hid h2
  have HFC := Lib.hid hfc
  clear h hfc hn hit hit2 hfr hcur h1 hsw h2 hsec hdis
  go_enter Tryz.func76, Tryz.ntmps76
  go_wp2_with fail
  go_region_law (first | (go_simp; go_at_call 76; refine (HN.out).mono ?_; rintro e w1 ⟨rfl, gd', rep', labs', fs', bs', q1, q2, q3, q4, q5⟩))
  all_goals
    have hlow : ∀ o, w1.cell? ⟨a, o, none⟩ = w0.cell? ⟨a, o, none⟩ := fun o => (World.cell?_of_block (w := w.drew) (q2.low a ha)).trans (HSW.out.cell ha o)
    have c4 := (hlow 4).trans H2.out
    have la2 := World.block_lt_of_cell? w1 _ c4
    have hfc1 := q1.fc
    have l101 : n + 10 < w1.heap.size := (Array.getElem?_eq_some_iff.1 hfc1.z10).1
    have c101 : ∀ o, w1.cell? ⟨n + 10, o, none⟩ = _ := blk_cell hfc1.z10
    have hn2 := HSEC.out w1 gd' rep' labs' fs' bs' q1 q2 q3 q4 q5
    have HN2 := Lib.hid hn2
    have HQ1 := Lib.hid q1
    have HQ4 := Lib.hid q4
    have HQ5 := Lib.hid q5
    have HQ2 := Lib.hid q2
    have HQ3 := Lib.hid q3
    clear hn2 q1 hfc1 hlow q4 q5 q2 q3
    go_wp2_with fail
    go_region_law (first | (go_simp; go_at_call 76; refine (HN2.out).mono ?_; rintro e w2 ⟨rfl, gd2, rep2, labs2, fs2, bs2, r1, r2, r3, r4, r5⟩))
    all_goals
      go_wp2_with fail
      go_end0
      refine ⟨rfl, gd2, rep2, labs2, fs2, bs2, r1, ((GF.refl _ _ _ w).drew.trans HQ2.out).trans ((GF.refl _ _ _ w1).drew.trans r2), fun l hl => r3 l (HQ3.out l hl), fun x hx => ?_, by rw [r5, HQ5.out]⟩
      rcases r4 x hx with g | g | g
      · rcases HQ4.out x (.inl g) with g | g | g
        · exact .inl g
        · exact .inr (.inl g)
        · exact .inr (.inr (List.mem_append_left _ g))
      · rcases HQ4.out x (.inr g) with g | g | g
        · exact .inl g
        · exact .inr (.inl g)
        · exact .inr (.inr (List.mem_append_left _ g))
      · exact .inr (.inr (List.mem_append_right _ g))
end Go.Proofs.YtpodifbgfcclbaaGreatDoor
