/- The labels in their order. -/
import Derived.Test.YtpodifbgfcclbaaGreatDoorJm22
set_option linter.unusedVariables false
set_option linter.unusedSimpArgs false
namespace Go.Proofs.YtpodifbgfcclbaaGreatDoor
open Go.RowKit
attribute [local go_sem] Nat.lt_add_one_of_lt

theorem info104 : ∃ j, Tryz.prog.info? 104 = some j ∧ j.zero = some .nilIface ∧ j.size = 1 ∧ j.bytes = 16 := by
  have h : (Tryz.prog.info? 104).map (fun j => (j.zero, j.size, j.bytes)) = some (some .nilIface, 1, 16) := by kernel_rfl
  cases hj : Tryz.prog.info? 104 with
  | none => rw [hj] at h; cases h
  | some j => rw [hj] at h; simp only [Option.map_some, Option.some.injEq, Prod.mk.injEq] at h; exact ⟨j, rfl, h.1, h.2.1, h.2.2⟩
def ifG (gd : GD) : List Value := gd.map fun e => .iface 108 (.pointer (some ⟨e.2.2, 0, none⟩))
theorem GSt.len {H0 C A M0 k : Nat} {gd : GD} {w : World} (h : GSt H0 C A M0 gd k w) : gd.length ≤ 9 := by
  have := keys_len 9 h.key fun a ha => by
    obtain ⟨e, he, rfl⟩ := List.mem_map.1 ha
    exact h.rng e he
  simpa using this
set_option maxRecDepth 100000 in
set_option maxHeartbeats 4000000 in
theorem ordered_any (H0 C A M0 k : Nat) (gd : GD) (w : World) (h : GSt H0 C A M0 gd k w) :
    Calls Tryz.prog 61 #[.pointer (some ⟨A, 0, none⟩)] w fun e w' => ∃ v, e = .returned v ∧ w'.ownsRow w.heap.size 104 1 v gd.length (ifG gd) ∧ Below w.heap.size w w' := by
  obtain ⟨vn, hA, hrow⟩ := h.scp
  obtain ⟨j, hj, hz, hz1, hz2⟩ := info104
  obtain ⟨an, capn, rfl, _, _⟩ := row_form hrow
  have hc : ∀ o, w.cell? ⟨A, o, none⟩ = _ := blk_cell hA
  have hAl : A < w.heap.size := (Array.getElem?_eq_some_iff.1 hA).1
  have hlen := h.len
  have HH := Lib.hid h
  have HR := Lib.hid hrow
  have HA := Lib.hid hA
  clear h hrow hA
  go_enter Tryz.func61, Tryz.ntmps61
  go_wp2_with fail
  go_loopg [3, 11] gd.length (fun g vr vi wr => ∃ i : Nat, i + g = gd.length ∧ vi = .int .i64 i ∧ wr.ownsRow w.heap.size 104 1 vr i (ifG (gd.take i)) ∧ Below w.heap.size w wr)
  case atStart => exact ⟨0, by omega, rfl, ⟨rfl, .inl ⟨rfl, rfl⟩⟩, Below.refl _ _⟩
  case round =>
    obtain ⟨i, hi, rfl, hrr, hb⟩ := hrel
    obtain ⟨ar, capr, rfl, _, _⟩ := row_form hrr
    by_cases hlt : i < gd.length
    · obtain ⟨e, he⟩ : ∃ e, gd[i]? = some e := ⟨_, List.getElem?_eq_getElem hlt⟩
      obtain ⟨g, rfl, hg, hcn, _⟩ := row_at HR.out hlt
      have hcn' : wr.cell? ⟨g, i, none⟩ = some (.string (nm e.1)) := by
        rw [hb.cell (p := ⟨g, i, none⟩) hg, hcn, List.getElem?_map, he]; rfl
      have hcA0 : wr.cell? ⟨A, 0, none⟩ = some (.map (some M0)) := (hb.cell (p := ⟨A, 0, none⟩) hAl).trans (hc 0)
      have hszr : w.heap.size ≤ wr.heap.size := hb.size
      have hgl : g < wr.heap.size := by omega
      have hAl' : A < wr.heap.size := by omega
      have hmem : e ∈ gd := List.mem_of_getElem? he
      have hM : SMap wr M0 (kvG gd) := HH.out.map.keep (hb.block M0 HH.out.map.lt)
      have hlk := run_look 151 104 .nilIface false und151 zero104 M0 (nm e.1) (kvG gd) wr hM
      have hf : gd.find? (fun x => x.1 == e.1) = some e := by
        obtain ⟨e', h1, h2, h3⟩ := find_key (gd := gd) (n := e.1) (List.mem_map_of_mem hmem)
        rw [h3, map_inj HH.out.key h1 hmem h2]
      rw [sget_kvG HH.out.rng (by have := (HH.out.rng e hmem).1; omega) (HH.out.rng e hmem).2, hf] at hlk
      simp only [Option.map_some, Option.getD_some, Bool.false_eq_true, if_false] at hlk
      have hiI : (i : Int) < (gd.length : Int) := by omega
      have hi0 : (0 : Int) ≤ (i : Int) := by omega
      have HRR := Lib.hid hrr
      have HB := Lib.hid hb
      have HE := Lib.hid he
      clear hrr hb he hcn hM hf hc
      have hu110 : Tryz.prog.underlying 110 = some (.slice 104) := by kernel_rfl
      go_wp2_with (at_builtin; refine wpList_append_lies _ rfl _ _ 110 rfl w.heap.size 104 j .nilIface 1 16 hu110 hj hz hz1 hz2 rfl (by decide) (.slice ar i capr) i (ifG (gd.take i)) (by rfl) (HRR.out.alloc _) ⟨wr.heap.size, 0, none⟩ 1 1 [.iface 108 (.pointer (some ⟨e.2.2, 0, none⟩))] (by rfl) rfl ?c1 ?c2 (by omega) ?c3 ?c4 ?c5 (wr.heap.size + 1) (by simp) ?_)
      case c1 => exact World.news_of_block (cs := #[.iface 108 (.pointer (some ⟨e.2.2, 0, none⟩))]) (t := 104) (fr := (0, 0)) (heap_alloc_new _ _)
      case c2 => simp [Value.oneCell']
      case c3 => unfold maxLen; omega
      case c4 => omega
      case c5 => simp; omega
      intro gg cap1 w2 hown1 hgrow hat hlt2
      have HO := Lib.hid hown1
      have HG := Lib.hid hgrow
      clear hown1 hgrow hat
      go_wp2_with fail
      go_roundg (gk - 1)
      case measure => omega
      refine ⟨i + 1, by omega, by simp, ?_, ?_⟩
      · have e1 : ifG (gd.take (i + 1)) = ifG (gd.take i) ++ [.iface 108 (.pointer (some ⟨e.2.2, 0, none⟩))] := by
          rw [take_succ_of HE.out, ifG, List.map_append]; rfl
        rw [e1]
        exact HO.out
      · have hg := HG.out
        refine HB.out.trans ⟨hg.os, hg.tape, hg.output, by have := hg.size; simp at this; omega, fun q hq => (hg.block q (by simp; omega) ?_).trans (Below.heap_alloc _ _ _ (by omega))⟩
        intro e2
        have := (row_blk HRR.out e2.symm).1
        omega
    · have hiI : ¬ (i : Int) < (gd.length : Int) := by omega
      obtain rfl : i = gd.length := by omega
      rw [List.take_length] at hrr
      have HRR := Lib.hid hrr
      clear hrr
      go_wp2_with fail
      go_ret
      exact ⟨_, rfl, HRR.out, hb⟩
end Go.Proofs.YtpodifbgfcclbaaGreatDoor

/- The labels of a function: what is reported. -/
set_option linter.unusedVariables false
set_option linter.unusedSimpArgs false
namespace Go.Proofs.YtpodifbgfcclbaaGreatDoor
open Go.RowKit
attribute [local go_sem] Nat.lt_add_one_of_lt

def useAll (fs : List (Nat × Int)) (gd : GD) : GD := fs.foldl (fun g x => useG x.2 g) gd
theorem useAll_take {fs : List (Nat × Int)} {gd : GD} {k : Nat} {x : Nat × Int} (h : fs[k]? = some x) : useAll (fs.take (k + 1)) gd = useG x.2 (useAll (fs.take k) gd) := by
  rw [take_succ_of h, useAll, List.foldl_append]; rfl
theorem useG_none {n : Int} {gd : GD} (h : ¬ n ∈ keysG gd) : useG n gd = gd := by
  unfold useG
  conv => rhs; rw [← List.map_id gd]
  refine List.map_congr_left fun e he => ?_
  have : ¬ e.1 = n := fun hh => h (List.mem_map.2 ⟨e, he, hh⟩)
  rw [if_neg this]; rfl
theorem useAll_count : ∀ (fs : List (Nat × Int)) (gd : GD), ((useAll fs gd).filter fun e => !e.2.1).length = (gd.filter fun e => !e.2.1 && !(fs.any fun f => f.2 == e.1)).length
  | [], gd => by simp [useAll]
  | x :: fs, gd => by
    have h := useAll_count fs (useG x.2 gd)
    show ((useAll fs (useG x.2 gd)).filter fun e => !e.2.1).length = _
    rw [h, useG, List.filter_map, List.length_map]
    congr 1
    refine List.filter_congr fun e _ => ?_
    simp only [Function.comp, List.any_cons]
    by_cases hx : e.1 = x.2
    · simp [hx]
    · have : (x.2 == e.1) = false := by
        rw [Bool.eq_false_iff]; simp; exact fun h => hx h.symm
      simp [hx, this]
theorem ds_count (gd : GD) (p : Int × Bool → Bool) : (gd.filter fun e => p (e.1, e.2.1)).length = ((dsG gd).filter p).length := by
  rw [dsG, List.filter_map, List.length_map]; rfl
theorem keys_useAll : ∀ (fs : List (Nat × Int)) (gd : GD), keysG (useAll fs gd) = keysG gd
  | [], gd => rfl
  | x :: fs, gd => by
    show keysG (useAll fs (useG x.2 gd)) = _
    rw [keys_useAll fs, keys_useG]
theorem row_gf {H0 M0 B n T : Nat} {v : Value} {xs : List Value} {w w' : World} (h : w.ownsRow B T 1 v n xs) (hf : GF H0 M0 w.heap.size w w') (hT : T ≠ 72 ∧ T ≠ 201 ∧ T ≠ 154 ∧ T ≠ 9 ∧ T ≠ 107) (hM : SMap w M0 []  ∨ ∃ kv, SMap w M0 kv) : w'.ownsRow B T 1 v n xs :=
  row_keep h fun g hg => by
    obtain ⟨_, h2, cs, h3⟩ := row_blk h hg
    refine hf.blk g h2 (not_Gx h3 hT ?_)
    rintro rfl
    obtain ⟨kv, es, clk, hm, _⟩ : ∃ kv, SMap w g kv := by
      rcases hM with hM | hM
      · exact ⟨_, hM⟩
      · exact hM
    rw [h3] at hm; cases hm
/-- How many are left unused among the first k. -/
def unC (gd : GD) (k : Nat) : Nat := ((gd.take k).filter fun e => !e.2.1).length
theorem unC_succ {gd : GD} {k : Nat} {e : Int × Bool × Nat} (h : gd[k]? = some e) : unC gd (k + 1) = unC gd k + if e.2.1 then 0 else 1 := by
  unfold unC
  rw [take_succ_of h, List.filter_append, List.length_append]
  congr 1
  cases hu : e.2.1 <;> simp [hu]
theorem unC_le (gd : GD) (k : Nat) : unC gd k ≤ gd.length := by
  have h1 := List.length_filter_le (fun e : Int × Bool × Nat => !e.2.1) (gd.take k)
  rw [List.length_take] at h1
  unfold unC; omega
theorem row_chk {H0 C k B n T : Nat} {v : Value} {xs : List Value} {w w' : World} (h : w.ownsRow B T 1 v n xs) (hc : Chk H0 C k w) (hf : ChkF H0 C w w') (h1 : T ≠ 72) (h2 : T ≠ 201) : w'.ownsRow B T 1 v n xs :=
  row_keep h fun g hg => by
    obtain ⟨_, _, cs, h3⟩ := row_blk h hg
    exact (hf.typ hc h3 h1 h2).trans h3.symm
/-- Behind a report in the second loop. -/
theorem L2_step {H0 C A M0 k B n T : Nat} {gd : GD} {v : Value} {xs : List Value} {w5 wr W w' : World} {row : Obj} (hg : GSt H0 C A M0 gd k wr) (hr : wr.ownsRow B T 1 v n xs) (hb : Below H0 w5 wr) (hW : W = wr.drew.alloc row ∨ W = (wr.alloc row).drew) (hc : Chk H0 C (k + 1) w') (hf : ChkF H0 C W w') (h1 : T ≠ 72) (h2 : T ≠ 201) :
    GSt H0 C A M0 gd (k + 1) w' ∧ w'.ownsRow B T 1 v n xs ∧ Below H0 w5 w' := by
  have hsz := hg.sz
  have hgW : GSt H0 C A M0 gd k W := by
    rcases hW with rfl | rfl
    · exact hg.drew.alloc _
    · exact (hg.alloc _).drew
  have hrW : W.ownsRow B T 1 v n xs := by
    rcases hW with rfl | rfl
    · exact World.ownsRow.alloc (w := wr.drew) hr _
    · exact (World.ownsRow.alloc hr _).drew
  have hbW : Below H0 wr W := by
    rcases hW with rfl | rfl
    · exact ⟨rfl, rfl, rfl, by simp, fun j hj => Below.heap_alloc _ _ _ (by show j < wr.heap.size; omega)⟩
    · exact ⟨rfl, rfl, rfl, by simp, fun j hj => Below.heap_alloc _ _ _ (by omega)⟩
  have hgf : GF H0 M0 H0 W w' := hf.gf hgW.chk hgW.sz hgW.sz
  exact ⟨hgW.reported hc hf, row_chk hrW hgW.chk hf h1 h2, hb.trans (hbW.trans ⟨hgf.os, hgf.tape, hgf.output, hgf.size, hgf.low⟩)⟩
theorem GF.below {H0 M0 N : Nat} {w w' : World} (h : GF H0 M0 N w w') : Below H0 w w' := ⟨h.os, h.tape, h.output, h.size, h.low⟩
theorem labels_count {y : List Tr} {gd : GD} {rep : Nat} {fs : List (Nat × Int)} (q1 : dsG gd = (jL [] [] (erL y) ⟨dsG [], 0, [], []⟩).ds) (q2 : rep = (jL [] [] (erL y) ⟨dsG [], 0, [], []⟩).rep) (q3 : fs.map Prod.snd = (jL [] [] (erL y) ⟨dsG [], 0, [], []⟩).fwd.map Prod.fst) :
    rep + fs.length + unC (useAll fs gd) (useAll fs gd).length = jumpsR (erL y) := by
  have e0 : (⟨dsG [], 0, [], []⟩ : JS) = j0 := rfl
  rw [e0] at q1 q2 q3
  have hl := congrArg List.length q3
  simp only [List.length_map] at hl
  unfold jumpsR unC
  rw [List.take_length, useAll_count, q2, hl]
  congr 1
  have := ds_count gd (fun e => !e.2 && !(fs.any fun f => f.2 == e.1))
  rw [this, q1]
  congr 1
  refine List.filter_congr fun e _ => ?_
  have h1 : (fs.any fun f => f.2 == e.1) = (fs.map Prod.snd).any fun a => a == e.1 := by rw [List.any_map]; rfl
  have h2 : ((jL [] [] (erL y) j0).fwd.any fun f => f.1 == e.1) = ((jL [] [] (erL y) j0).fwd.map Prod.fst).any fun a => a == e.1 := by rw [List.any_map]; rfl
  rw [h1, h2, q3]
set_option maxRecDepth 100000 in
set_option maxHeartbeats 8000000 in
theorem labels_any (lo H0 C : Nat) (ps : List Nat) (y : List Tr) (sa : Option Addr) (cap b o a1 : Nat) (p q : Int) (w : World) (hchk : Chk H0 C 0 w) (hsz : H0 ≤ w.heap.size) (ha : a1 < H0) (hp : w.cell? ⟨a1, 0, none⟩ = some (.int .i64 p)) (hl : w.cell? ⟨a1, 1, none⟩ = some (.slice sa y.length cap)) (hq : w.cell? ⟨a1, 2, none⟩ = some (.int .i64 q))
    (hlen : y.length ≤ 8796093022208) (hsa : y ≠ [] → sa = some ⟨b, o, none⟩) (htl : TL w lo H0 ps b o y) (hnd : (gtsL y).Nodup) (hct : ctL (erL y) ≤ 50000) :
    Calls Tryz.prog 44 #[.pointer (some ⟨C, 0, none⟩), .pointer (some ⟨a1, 0, none⟩)] w fun e w' => e = .returned (.tuple #[]) ∧ Chk H0 C (jumpsR (erL y)) w' ∧ Below H0 w w' := by
  have la : a1 < w.heap.size := by omega
  have HC := Lib.hid hchk
  have HTL := Lib.hid htl
  have HN := Lib.hid hnd
  have HSA := Lib.hid hsa
  clear hchk htl hnd hsa
  go_enter Tryz.func44, Tryz.ntmps44
  go_wp2_with fail
  go_region_law (first | (go_simp; go_at_call 56; refine (NewScope_any p q _ _ _).mono ?_; rintro e w1 ⟨rfl, hw1⟩))
  all_goals
    obtain ⟨W1, hW1⟩ : ∃ W, W = ((w.alloc (.map #[] 0)).alloc (.cells #[.map (some w.heap.size), .slice none 0 0] 154)).drew := ⟨_, rfl⟩
    rw [← hW1]
    have hA1 : W1.heap[w.heap.size + 1]? = some (.cells #[.map (some w.heap.size), .slice none 0 0] 154) := by
      rw [hW1]
      have := blk_new (w.alloc (.map #[] 0)) #[.map (some w.heap.size), .slice none 0 0] 154
      rw [show (w.alloc (.map #[] 0)).heap.size = w.heap.size + 1 by simp] at this
      exact this
    have hM1 : SMap W1 w.heap.size [] := by
      rw [hW1]
      exact (SMap.new w).keep (Below.heap_alloc _ _ _ (by simp))
    have hold : ∀ j, j < w.heap.size → W1.heap[j]? = w.heap[j]? := fun j hj => by
      rw [hW1]
      exact (Below.heap_alloc _ _ _ (by simp; omega)).trans (Below.heap_alloc _ _ _ hj)
    have sz1 : W1.heap.size = w.heap.size + 2 := by rw [hW1]; simp
    have hos : W1.os = w.os ∧ W1.tape = w.tape ∧ W1.output = w.output := by rw [hW1]; exact ⟨rfl, rfl, rfl⟩
    have hC1 : Chk H0 C 0 W1 := by rw [hW1]; exact ((HC.out.alloc _).alloc _).drew
    clear hW1
    have hg1 : GSt H0 C (w.heap.size + 1) w.heap.size [] 0 W1 := ⟨hC1, ⟨.slice none 0 0, hA1, ⟨rfl, .inl ⟨rfl, rfl⟩⟩⟩, hM1, fun e he => by (cases he), List.nodup_nil, List.nodup_nil, by omega, hsz, by omega⟩
    have hl1 : W1.cell? ⟨a1, 1, none⟩ = some (.slice sa y.length cap) := (World.cell?_of_block (w := w) (hold a1 la)).trans hl
    have la1 : a1 < W1.heap.size := by omega
    have hcall : Calls Tryz.prog 57 #[.pointer (some ⟨C, 0, none⟩), .pointer (some ⟨w.heap.size + 1, 0, none⟩), .pointer none, .pointer none, .slice sa y.length cap] W1 (BlkR lo H0 C (w.heap.size + 1) w.heap.size (fun s => jL [] [] (erL y) s) (gtsL y) [] 0 W1) :=
      (blockBranches_any (C := C) (A := w.heap.size + 1) (M0 := w.heap.size) (cap := cap) hlen HSA.out HTL.out HN.out [] none).2 [] 0 W1 hg1 trivial (fun j hj => hold j (by omega)) (fun x hx => by cases hx) (fun l hl => by cases hl) (fun x hx => by cases hx) (by omega) (by omega)
    have HOLD := Lib.hid hold
    have HOS := Lib.hid hos
    clear hold hos hg1 hM1 hA1 hC1 hp hq hl
    go_wp2_with fail
    refine hcall.mono ?_
    rintro e w2 ⟨v, gd, rep, fs, rfl, hrow, hg, hgf, _, hgt, q1, q2, q3⟩
    clear hcall
    obtain ⟨af, capf, rfl, hcf1, hcf2⟩ := row_form hrow
    have hm := jL_m [] [] (erL y) ⟨dsG [], 0, [], []⟩
    have hlen3 := congrArg List.length q3
    simp only [List.length_map] at hlen3
    simp only [JS.m, List.length_nil] at hm
    rw [← q2, ← hlen3] at hm
    have hbig : rep + fs.length ≤ 50000 := by omega
    have Q1 := Lib.hid q1
    have Q2 := Lib.hid q2
    have Q3 := Lib.hid q3
    have HGT := Lib.hid hgt
    have HROW := Lib.hid hrow
    have HGF := Lib.hid hgf
    have HG := Lib.hid hg
    clear q1 q2 q3 hgt hrow hgf hg hlen3 hm hl1
    go_wp2_with fail
    go_loopg [33] fs.length (fun g vi wr => ∃ k : Nat, k + g = fs.length ∧ vi = .int .i64 k ∧ GSt H0 C (w.heap.size + 1) w.heap.size (useAll (fs.take k) gd) (rep + k) wr ∧ GF H0 w.heap.size w2.heap.size w2 wr)
    case atStart => exact ⟨0, by omega, rfl, HG.out, GF.refl _ _ _ _⟩
    case round =>
      obtain ⟨k, hk, rfl, hgk, hfk⟩ := hrel
      by_cases hlt : k < fs.length
      · obtain ⟨x, hx⟩ : ∃ x, fs[k]? = some x := ⟨_, List.getElem?_eq_getElem hlt⟩
        have hroww := row_gf HROW.out hfk (by decide) (.inr ⟨_, HG.out.map⟩)
        obtain ⟨g, rfl, hg, hcn, _⟩ := row_at hroww hlt
        have hcn' : wr.cell? ⟨g, k, none⟩ = some (.pointer (some ⟨x.1, 0, none⟩)) := by
          rw [hcn, ptrs, List.getElem?_map, List.getElem?_map, hx]; rfl
        obtain ⟨t1, t2, t3, ⟨t4, t5, t6⟩, t7⟩ := ((HGT.out x (List.mem_of_getElem? hx)).1).keep hfk.low
        rw [if_neg t7] at t6
        obtain ⟨ii, qq, s1, s2, s3, s4, s5⟩ := t6
        have hszr : H0 ≤ wr.heap.size := hgk.sz
        have lx : x.1 < wr.heap.size := by omega
        have lii : ii < wr.heap.size := by omega
        have hkI : (k : Int) < (fs.length : Int) := by omega
        have hk0 : (0 : Int) ≤ (k : Int) := by omega
        have HX := Lib.hid hx
        have HGK := Lib.hid hgk
        have HFK := Lib.hid hfk
        clear hx hgk hfk hcn hroww t3
        go_wp2_with fail
        refine (Lookup_any H0 C _ _ (rep + k) (useAll (fs.take k) gd) x.2 wr HGK.out t4 t5).mono ?_
        rintro e w3 ⟨rfl, hw3⟩
        rw [hw3]
        clear hw3
        by_cases hkey : x.2 ∈ keysG (useAll (fs.take k) gd)
        · obtain ⟨ev, hev, hev1, hlook⟩ := lookG_of hkey
          rw [hlook]
          obtain ⟨e1, e2, e3, pl, e4⟩ := HGK.out.lab ev hev
          have cL : ∀ o, wr.cell? ⟨ev.2.2, o, none⟩ = _ := blk_cell e4
          have fL : ∀ o, wr.frozen? ⟨ev.2.2, o, none⟩ = false := blk_frz e4
          have lL : ev.2.2 < wr.heap.size := (Array.getElem?_eq_some_iff.1 e4).1
          have hu := HGK.out.used hev
          have huf := HGK.out.used_gf (N := w2.heap.size) hev
          rw [hev1, ← useAll_take HX.out] at hu
          have HU := Lib.hid hu
          have HUF := Lib.hid huf
          clear hu huf hlook hkey
          go_wp2_with fail
          have hii : ((wr.setCell ⟨ev.2.2, 2, none⟩ (.bool true))).cell? ⟨ii, 0, none⟩ = some (.int .i64 qq) := (World.cell?_of_block (w := wr) (blk_far _ (by show ii ≠ ev.2.2; omega))).trans s4
          refine (identPos_any ii qq _ hii).mono ?_
          rintro e _ ⟨rfl, rfl⟩
          obtain ⟨w6, hw6⟩ : ∃ w6, w6 = wr.setCell ⟨ev.2.2, 2, none⟩ (.bool true) := ⟨_, rfl⟩
          rw [← hw6]
          have hu6 : GSt H0 C (w.heap.size + 1) w.heap.size (useAll (fs.take (k + 1)) gd) (rep + k) w6 := by rw [hw6]; exact HU.out
          have hf6 : GF H0 w.heap.size w2.heap.size wr w6 := by rw [hw6]; exact HUF.out
          clear hw6 hii cL fL
          have HU6 := Lib.hid hu6
          have HF6 := Lib.hid hf6
          clear hu6 hf6
          go_wp2_with fail
          refine (errorf_any H0 C (rep + k) w6.heap.size 1 1 qq _ _ (nm x.2) _ (HU6.out.alloc _).chk (HU6.out.alloc _).sz (by simp) (by omega) (by omega)).mono ?_
          rintro e w7 ⟨rfl, r1, r2⟩
          go_wp2_with fail
          go_roundg (gk - 1)
          case measure => omega
          refine ⟨k + 1, by omega, by simp, (HU6.out.alloc _).reported r1 r2, ?_⟩
          have s6 := HF6.out.size
          have s7 := HFK.out.size
          have s8 := HU6.out.sz
          exact HFK.out.trans (HF6.out.trans (((GF.refl H0 w.heap.size w2.heap.size w6).alloc s8 (by omega) _).trans (r2.gf (HU6.out.alloc _).chk (by simp; omega) (by simp; omega))))
        · have hlook : lookG (useAll (fs.take k) gd) x.2 = .nilIface := by
            unfold lookG
            have : (useAll (fs.take k) gd).find? (fun e => e.1 == x.2) = none := by
              rw [List.find?_eq_none]
              intro e he hh
              exact hkey (List.mem_map.2 ⟨e, he, by simpa using hh⟩)
            rw [this]; rfl
          rw [hlook]
          have hu : useAll (fs.take (k + 1)) gd = useAll (fs.take k) gd := by rw [useAll_take HX.out, useG_none hkey]
          have HU := Lib.hid hu
          clear hu hlook hkey
          go_wp2_with fail
          refine (identPos_any ii qq _ s4).mono ?_
          rintro e wz ⟨rfl, hwz⟩
          rw [hwz]
          clear hwz
          go_wp2_with fail
          refine (errorf_any H0 C (rep + k) wr.heap.size 1 1 qq _ _ (nm x.2) _ (HGK.out.alloc _).chk (HGK.out.alloc _).sz (by simp) (by omega) (by omega)).mono ?_
          rintro e w7 ⟨rfl, r1, r2⟩
          go_wp2_with fail
          go_roundg (gk - 1)
          case measure => omega
          refine ⟨k + 1, by omega, by simp, by rw [HU.out]; exact (HGK.out.alloc _).reported r1 r2, ?_⟩
          have s7 := HFK.out.size
          exact HFK.out.trans (((GF.refl H0 w.heap.size w2.heap.size wr).alloc hszr (by omega) _).trans (r2.gf (HGK.out.alloc _).chk (by simp; omega) (by simp; omega)))
      · have hkI : ¬ (k : Int) < (fs.length : Int) := by omega
        obtain rfl : k = fs.length := by omega
        rw [List.take_length] at hgk
        obtain ⟨gdF, hgdF⟩ : ∃ gdF, gdF = useAll fs gd := ⟨_, rfl⟩
        rw [← hgdF] at hgk
        have HGK := Lib.hid hgk
        have HFK := Lib.hid hfk
        have HGD := Lib.hid hgdF
        clear hgk hfk hgdF
        go_wp2_with fail
        refine (ordered_any H0 C _ _ _ gdF wr HGK.out).mono ?_
        rintro e w5 ⟨v2, rfl, hrow2, hb2⟩
        obtain ⟨a2, cap2, rfl, _, _⟩ := row_form hrow2
        obtain ⟨B5, hB5⟩ : ∃ B5, B5 = wr.heap.size := ⟨_, rfl⟩
        rw [← hB5] at hrow2
        have hg5 : GSt H0 C (w.heap.size + 1) w.heap.size gdF (rep + fs.length) w5 := HGK.out.keep hb2.size fun j hj => hb2.block j (hj.lt HGK.out.map.lt)
        have hlow5 : Below H0 w w5 := by
          have h1 := HFK.out.below
          have h2 := HGF.out.below
          have h3 : Below H0 w W1 := ⟨HOS.out.1, HOS.out.2.1, HOS.out.2.2, by omega, fun j hj => HOLD.out j (by omega)⟩
          have hszr := HGK.out.sz
          exact ((h3.trans h2).trans h1).trans ⟨hb2.os, hb2.tape, hb2.output, hb2.size, fun j hj => hb2.block j (by omega)⟩
        have hlenF := hg5.len
        have HG5 := Lib.hid hg5
        have HL5 := Lib.hid hlow5
        have HR5 := Lib.hid hrow2
        have HB5 := Lib.hid hb2
        clear hg5 hlow5 hrow2 hb2
        go_wp2_with fail
        go_loopg [69] gdF.length (fun g vi wr => ∃ m : Nat, m + g = gdF.length ∧ vi = .int .i64 m ∧ GSt H0 C (w.heap.size + 1) w.heap.size gdF (rep + fs.length + unC gdF m) wr ∧ wr.ownsRow B5 104 1 (.slice a2 gdF.length cap2) gdF.length (ifG gdF) ∧ Below H0 w5 wr)
        case atStart => exact ⟨0, by omega, rfl, by simpa [unC] using HG5.out, HR5.out, Below.refl _ _⟩
        case round =>
          obtain ⟨m, hm, rfl, hgq, hrq, hbq⟩ := hrel
          by_cases hltm : m < gdF.length
          · obtain ⟨e, he⟩ : ∃ e, gdF[m]? = some e := ⟨_, List.getElem?_eq_getElem hltm⟩
            obtain ⟨g, rfl, hg2, hcn, _⟩ := row_at hrq hltm
            have hcn' : wr.cell? ⟨g, m, none⟩ = some (.iface 108 (.pointer (some ⟨e.2.2, 0, none⟩))) := by
              rw [hcn, ifG, List.getElem?_map, he]; rfl
            obtain ⟨e1, e2, e3, pl, e4⟩ := hgq.lab e (List.mem_of_getElem? he)
            have cL : ∀ o, wr.cell? ⟨e.2.2, o, none⟩ = _ := blk_cell e4
            have lL : e.2.2 < wr.heap.size := (Array.getElem?_eq_some_iff.1 e4).1
            have hmI : (m : Int) < (gdF.length : Int) := by omega
            have hm0 : (0 : Int) ≤ (m : Int) := by omega
            have hszq := hgq.sz
            have hun := unC_le gdF m
            have hcapq : rep + fs.length + unC gdF m ≤ 100000 := by omega
            have HGQ := Lib.hid hgq
            have HRQ := Lib.hid hrq
            have HBQ := Lib.hid hbq
            have HE := Lib.hid he
            have HE4 := Lib.hid e4
            clear hgq hrq hbq he hcn e4
            cases hu : e.2.1 with
            | true =>
              rw [hu] at cL
              go_wp2_with fail
              go_roundg (gk - 1)
              case measure => omega
              exact ⟨m + 1, by omega, by simp, by rw [unC_succ HE.out, hu]; exact HGQ.out, HRQ.out, HBQ.out⟩
            | false =>
              rw [hu] at cL
              have c0 : wr.cell? ⟨e.2.2, 0, none⟩ = some (.int .i64 pl) := cL 0
              have c1 : wr.cell? ⟨e.2.2, 1, none⟩ = some (.string (nm e.1)) := cL 1
              go_wp2_with fail
              clear cL
              go_region_held3 (fun w' => w'.cell? ⟨e.2.2, 0, none⟩ = some (.int .i64 pl) ∧ w'.cell? ⟨e.2.2, 1, none⟩ = some (.string (nm e.1))) (first | go_keep | exact hcE)
                (first
                  | (go_at_call 63; refine (labelPos_any e.2.2 pl _ (by first | exact c0 | exact (World.cell?_alloc_past _ _ _ lL).trans c0)).mono ?_; rintro e _ ⟨rfl, rfl⟩)
                  | (go_at_call 62; refine (softErrorf_any H0 C (rep + fs.length + unC gdF m) wr.heap.size 1 1 pl _ _ (nm e.1) _ (by first | exact HGQ.out.chk.drew.alloc _ | exact (HGQ.out.chk.alloc _).drew) (by simp; omega) (by simp) (by omega) hcapq).mono ?_; rintro ez w8 ⟨rfl, r1, r2⟩; have hcE : w8.cell? ⟨e.2.2, 0, none⟩ = some (.int .i64 pl) ∧ w8.cell? ⟨e.2.2, 1, none⟩ = some (.string (nm e.1)) := (by have hn2 := r2.typ (by first | exact HGQ.out.chk.drew.alloc _ | exact (HGQ.out.chk.alloc _).drew) ((Below.heap_alloc _ _ _ lL).trans HE4.out) (by decide) (by decide); exact ⟨blk_cell hn2 0, blk_cell hn2 1⟩)))
              all_goals
                go_wp2_with fail
                go_roundg (gk - 1)
                case measure => omega
                have hst := (by first | exact L2_step HGQ.out HRQ.out HBQ.out (.inl rfl) r1 r2 (by decide) (by decide) | exact L2_step HGQ.out HRQ.out HBQ.out (.inr rfl) r1 r2 (by decide) (by decide) : GSt H0 C (w.heap.size + 1) w.heap.size gdF (rep + fs.length + unC gdF m + 1) w8 ∧ w8.ownsRow B5 104 1 (.slice (some ⟨g, 0, none⟩) gdF.length cap2) gdF.length (ifG gdF) ∧ Below H0 w5 w8)
                exact ⟨m + 1, by omega, by simp, by rw [unC_succ HE.out, hu]; exact hst.1, hst.2.1, hst.2.2⟩
          · have hmI : ¬ (m : Int) < (gdF.length : Int) := by omega
            obtain rfl : m = gdF.length := by omega
            go_wp2_with fail
            go_end0
            have hcnt := labels_count Q1.out Q2.out Q3.out
            rw [← HGD.out] at hcnt
            exact ⟨rfl, by rw [← hcnt]; exact hgq.chk, HL5.out.trans hbq⟩
end Go.Proofs.YtpodifbgfcclbaaGreatDoor
