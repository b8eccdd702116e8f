/- blockBranches. -/
import Derived.Test.YtpodifbgfcclbaaGreatDoorJm16
import Derived.Test.YtpodifbgfcclbaaGreatDoorJm18
set_option linter.unusedVariables false
set_option linter.unusedSimpArgs false
namespace Go.Proofs.YtpodifbgfcclbaaGreatDoor
open Go.RowKit
attribute [local go_sem] Nat.lt_add_one_of_lt
theorem store_func (P : Program) (w : World) (a : Addr) (m : Mode) (f : Fn) (x y : Array Value) : (store a (.func f x y) m).run P w = stored P w a (.func f x y) m := run_store P w a _ m rfl
attribute [local go_sem] store_func

/-- A statement of a block, with what is done at it. -/
structure Itm where
  v : Value
  J : JS → JS
  nodes : List Nat
  cnt : Nat
def foldI : List Itm → JS → JS
  | [], s => s
  | i :: is, s => foldI is (i.J s)
def nodesI (is : List Itm) : List Nat := is.flatMap fun i => i.nodes
def cntI : List Itm → Nat
  | [] => 0
  | i :: is => i.cnt + cntI is
theorem foldI_append : ∀ (a b : List Itm) (s : JS), foldI (a ++ b) s = foldI b (foldI a s)
  | [], b, s => rfl
  | i :: a, b, s => foldI_append a b (i.J s)
theorem cntI_append : ∀ (a b : List Itm), cntI (a ++ b) = cntI a + cntI b
  | [], b => by simp [cntI]
  | i :: a, b => by simp only [List.cons_append, cntI, cntI_append a b]; omega
theorem foldI_m : ∀ (is : List Itm), (∀ it ∈ is, ∀ s : JS, (it.J s).m ≤ s.m + it.cnt) → ∀ s, (foldI is s).m ≤ s.m + cntI is
  | [], _, s => by simp [foldI, cntI]
  | i :: is, h, s => by
    have h1 := h i (by simp) s
    have h2 := foldI_m is (fun it hi => h it (by simp [hi])) (i.J s)
    simp only [foldI, cntI]; omega
theorem foldI_take {is : List Itm} {k : Nat} {it : Itm} (h : is[k]? = some it) (s : JS) : foldI (is.take (k + 1)) s = it.J (foldI (is.take k) s) := by
  rw [take_succ_of h, foldI_append]; rfl
theorem nodesI_take {is : List Itm} {k : Nat} {it : Itm} (h : is[k]? = some it) : nodesI (is.take (k + 1)) = nodesI (is.take k) ++ it.nodes := by
  rw [take_succ_of h, nodesI, List.flatMap_append]; simp [nodesI]
theorem cntI_take {is : List Itm} {k : Nat} {it : Itm} (h : is[k]? = some it) : cntI (is.take (k + 1)) = cntI (is.take k) + it.cnt := by
  rw [take_succ_of h, cntI_append]; rfl
theorem cntI_le {is : List Itm} (k : Nat) : cntI (is.take k) ≤ cntI is := by
  conv => rhs; rw [← List.take_append_drop k is, cntI_append]
  omega
theorem nodesI_sub {is : List Itm} (k : Nat) : ∀ a ∈ nodesI (is.take k), a ∈ nodesI is := by
  intro a ha
  rw [nodesI, List.mem_flatMap] at ha ⊢
  obtain ⟨i, hi, h⟩ := ha
  exact ⟨i, List.mem_of_mem_take hi, h⟩
/-- At round k. -/
def BInv (lo H0 C A M0 n : Nat) (es : List BE) (cur : CUR) (gd : GD) (rep : Nat) (is : List Itm) (w : World) (k : Nat) (wr : World) : Prop :=
  ∃ (gd' : GD) (rep' : Nat) (labs' : List Int) (fs' : List (Nat × Int)) (bs' : List Nat), LSt lo H0 C A M0 n es cur gd' rep' labs' fs' bs' wr ∧ GF H0 M0 n w wr ∧ (∀ l ∈ keysG gd, l ∈ keysG gd') ∧ (∀ a, a ∈ fs'.map Prod.fst ∨ a ∈ bs' → a ∈ nodesI (is.take k)) ∧ jsOf gd' rep' labs' fs' bs' = foldI (is.take k) ⟨dsG gd, rep, [], []⟩
theorem nodup_at {is : List Itm} (hnd : (nodesI is).Nodup) {k : Nat} {it : Itm} (h : is[k]? = some it) : ∀ a ∈ it.nodes, ¬ a ∈ nodesI (is.take k) := by
  intro a ha hb
  have h1 : nodesI is = nodesI (is.take (k + 1)) ++ nodesI (is.drop (k + 1)) := by
    rw [nodesI, nodesI, nodesI, ← List.flatMap_append, List.take_append_drop]
  rw [h1, nodesI_take h] at hnd
  have h2 := (List.nodup_append.1 hnd).1
  exact (List.nodup_append.1 h2).2.2 _ hb _ ha rfl
def allocs : World → List Obj → World
  | w, [] => w
  | w, o :: l => allocs (w.alloc o) l
theorem allocs_spec : ∀ (l : List Obj) (w : World), (allocs w l).heap.size = w.heap.size + l.length ∧ (∀ j, j < w.heap.size → (allocs w l).heap[j]? = w.heap[j]?) ∧ (∀ i o, l[i]? = some o → (allocs w l).heap[w.heap.size + i]? = some o) ∧ (allocs w l).os = w.os ∧ (allocs w l).tape = w.tape ∧ (allocs w l).output = w.output
  | [], w => ⟨rfl, fun _ _ => rfl, fun i o h => by simp at h, rfl, rfl, rfl⟩
  | o :: l, w => by
    obtain ⟨h1, h2, h3, h4, h5, h6⟩ := allocs_spec l (w.alloc o)
    have hs : (w.alloc o).heap.size = w.heap.size + 1 := by simp
    refine ⟨by show (allocs (w.alloc o) l).heap.size = _; rw [h1, hs, List.length_cons]; omega, fun j hj => (h2 j (by omega)).trans (Below.heap_alloc _ _ _ hj), fun i o' h => ?_, h4, h5, h6⟩
    cases i with
    | zero =>
      simp at h
      subst h
      exact (h2 _ (by omega)).trans (heap_alloc_new w o)
    | succ i =>
      have := h3 i o' (by simpa using h)
      rw [hs] at this
      rw [show w.heap.size + (i + 1) = w.heap.size + 1 + i by omega]
      exact this
set_option maxRecDepth 100000 in
theorem blk_start (lo H0 C A M0 : Nat) (w0 : World) (es : List BE) (cur : CUR) (gd : GD) (rep : Nat) (w : World) (hg : GSt H0 C A M0 gd rep w) (hch : Ch w lo H0 M0 w.heap.size es) (hsw : SW w0 w H0) (hcur : CurOk lo H0 w0 gd cur) (hgl : ∀ l ∈ glB es, l ∈ keysG gd) (htg : ∀ x ∈ tgB es, x.1 ∈ keysG gd) (hM : M0 < w.heap.size) {W : World} {pu pl : Option Addr} (hpu : ptr (headB es) = .pointer pu) (hpl : ptr (cur.map fun x => x.1) = .pointer pl)
    (hW : W = (((((((((((w.alloc (.cells #[.pointer (some ⟨C, 0, none⟩)] 69)).alloc (.cells #[.pointer (some ⟨A, 0, none⟩)] 91)).alloc (.cells #[.pointer pu, .pointer pl, .map none] 159)).alloc (.cells #[.pointer (some ⟨w.heap.size + 2, 0, none⟩)] 155)).alloc (.cells #[.int .i64 0] 45)).alloc (.cells #[.slice none 0 0] 93)).alloc (.cells #[.slice none 0 0] 93)).alloc
      (.cells #[.func (.func 71) #[] #[.pointer (some ⟨w.heap.size + 4, 0, none⟩), .pointer (some ⟨w.heap.size + 6, 0, none⟩), .pointer (some ⟨w.heap.size + 5, 0, none⟩)]] 160)).alloc (.cells #[.func (.func 72) #[] #[.pointer (some ⟨w.heap.size + 4, 0, none⟩), .pointer (some ⟨w.heap.size + 6, 0, none⟩)]] 162)).alloc (.cells #[.func (.func 75) #[] (capsB w.heap.size)] 163)).alloc (.cells #[.func (.func 76) #[] (capsS w.heap.size)] 164))) :
    LSt lo H0 C A M0 w.heap.size es cur gd rep [] [] [] W ∧ GF H0 M0 w.heap.size w W := by
  obtain ⟨hsz, hold, hz, ho1, ho2, ho3⟩ := allocs_spec [(.cells #[.pointer (some ⟨C, 0, none⟩)] 69), (.cells #[.pointer (some ⟨A, 0, none⟩)] 91), (.cells #[.pointer pu, .pointer pl, .map none] 159), (.cells #[.pointer (some ⟨w.heap.size + 2, 0, none⟩)] 155), (.cells #[.int .i64 0] 45), (.cells #[.slice none 0 0] 93), (.cells #[.slice none 0 0] 93), (.cells #[.func (.func 71) #[] #[.pointer (some ⟨w.heap.size + 4, 0, none⟩), .pointer (some ⟨w.heap.size + 6, 0, none⟩), .pointer (some ⟨w.heap.size + 5, 0, none⟩)]] 160), (.cells #[.func (.func 72) #[] #[.pointer (some ⟨w.heap.size + 4, 0, none⟩), .pointer (some ⟨w.heap.size + 6, 0, none⟩)]] 162), (.cells #[.func (.func 75) #[] (capsB w.heap.size)] 163), (.cells #[.func (.func 76) #[] (capsS w.heap.size)] 164)] w
  have hW' : W = allocs w [(.cells #[.pointer (some ⟨C, 0, none⟩)] 69), (.cells #[.pointer (some ⟨A, 0, none⟩)] 91), (.cells #[.pointer pu, .pointer pl, .map none] 159), (.cells #[.pointer (some ⟨w.heap.size + 2, 0, none⟩)] 155), (.cells #[.int .i64 0] 45), (.cells #[.slice none 0 0] 93), (.cells #[.slice none 0 0] 93), (.cells #[.func (.func 71) #[] #[.pointer (some ⟨w.heap.size + 4, 0, none⟩), .pointer (some ⟨w.heap.size + 6, 0, none⟩), .pointer (some ⟨w.heap.size + 5, 0, none⟩)]] 160), (.cells #[.func (.func 72) #[] #[.pointer (some ⟨w.heap.size + 4, 0, none⟩), .pointer (some ⟨w.heap.size + 6, 0, none⟩)]] 162), (.cells #[.func (.func 75) #[] (capsB w.heap.size)] 163), (.cells #[.func (.func 76) #[] (capsS w.heap.size)] 164)] := hW
  rw [← hW'] at hsz hold hz ho1 ho2 ho3
  clear hW hW'
  simp only [List.length_cons, List.length_nil] at hsz
  have z0 : W.heap[w.heap.size + 0]? = some (.cells #[.pointer (some ⟨C, 0, none⟩)] 69) := hz 0 _ rfl
  have z1 : W.heap[w.heap.size + 1]? = some (.cells #[.pointer (some ⟨A, 0, none⟩)] 91) := hz 1 _ rfl
  have z2 : W.heap[w.heap.size + 2]? = some (.cells #[.pointer pu, .pointer pl, .map none] 159) := hz 2 _ rfl
  have z3 : W.heap[w.heap.size + 3]? = some (.cells #[.pointer (some ⟨w.heap.size + 2, 0, none⟩)] 155) := hz 3 _ rfl
  have z4 : W.heap[w.heap.size + 4]? = some (.cells #[.int .i64 0] 45) := hz 4 _ rfl
  have z5 : W.heap[w.heap.size + 5]? = some (.cells #[.slice none 0 0] 93) := hz 5 _ rfl
  have z6 : W.heap[w.heap.size + 6]? = some (.cells #[.slice none 0 0] 93) := hz 6 _ rfl
  have z7 : W.heap[w.heap.size + 7]? = some (.cells #[.func (.func 71) #[] #[.pointer (some ⟨w.heap.size + 4, 0, none⟩), .pointer (some ⟨w.heap.size + 6, 0, none⟩), .pointer (some ⟨w.heap.size + 5, 0, none⟩)]] 160) := hz 7 _ rfl
  have z8 : W.heap[w.heap.size + 8]? = some (.cells #[.func (.func 72) #[] #[.pointer (some ⟨w.heap.size + 4, 0, none⟩), .pointer (some ⟨w.heap.size + 6, 0, none⟩)]] 162) := hz 8 _ rfl
  have z9 : W.heap[w.heap.size + 9]? = some (.cells #[.func (.func 75) #[] (capsB w.heap.size)] 163) := hz 9 _ rfl
  have z10 : W.heap[w.heap.size + 10]? = some (.cells #[.func (.func 76) #[] (capsS w.heap.size)] 164) := hz 10 _ rfl
  have hos : W.os = w.os ∧ W.tape = w.tape ∧ W.output = w.output := ⟨ho1, ho2, ho3⟩
  have hH := hg.sz
  have hlow : ∀ j, j < H0 → W.heap[j]? = w.heap[j]? := fun j hj => hold j (by omega)
  refine ⟨⟨hg.keep (by omega) fun j hj => hold j (hj.lt hM), ⟨z0, z1, z3, z7, z8, z9, z10⟩, ⟨0, .slice none 0 0, .slice none 0 0, z4, fun h => absurd rfl h, z5, ⟨rfl, .inl ⟨rfl, rfl⟩⟩, z6, ⟨rfl, .inl ⟨rfl, rfl⟩⟩, .inl rfl⟩, Ch.keep (Nat.le_refl _) hlow (fun j hj _ => hold j hj) hch, ⟨none, by rw [hpu, hpl]; exact z2, (fun l hl => by cases hl), rfl⟩,
    fun x hx => (hcur x hx).1.keep fun j hj => (hlow j hj).trans (hsw j hj), hM, hH, (fun x hx => by cases hx), (fun b hb => by cases hb), (fun l hl => by cases hl), hgl, ?_⟩, ⟨hos.1, hos.2.1, hos.2.2, by omega, hlow, fun j hj _ => hold j hj⟩⟩
  intro x hx
  cases cur with
  | none => exact htg x hx
  | some c =>
    simp only [tgB, List.filterMap_cons, Option.map_some, List.mem_cons] at hx
    rcases hx with rfl | hx
    · exact (hcur c rfl).2
    · exact htg x hx
set_option maxRecDepth 100000 in
set_option maxHeartbeats 4000000 in
theorem blk_any (lo H0 C A M0 : Nat) (w0 : World) (es : List BE) (cur : CUR) (is : List Itm) (sa : Option Addr) (cap b o : Nat) (hsa : is ≠ [] → sa = some ⟨b, o, none⟩) (hcell : ∀ i it, is[i]? = some it → b < H0 ∧ w0.cell? ⟨b, o + i, none⟩ = some it.v)
    (hit : ∀ it ∈ is, ItemC lo H0 C A M0 w0 es cur none it.v it.J it.nodes it.cnt) (hnd : (nodesI is).Nodup) (hlen : is.length ≤ 8796093022208) : BlkC lo H0 C A M0 w0 es cur sa is.length cap (foldI is) (nodesI is) (cntI is) := by
  refine ⟨foldI_m is fun it hi => (hit it hi).1, ?_⟩
  intro gd rep w hg hch hsw hcur hgl htg hM hcap
  have HC := Lib.hid hcell
  have HI := Lib.hid hit
  have HN := Lib.hid hnd
  have HG := Lib.hid hg
  have HCH := Lib.hid hch
  have HSW := Lib.hid hsw
  have HCU := Lib.hid hcur
  have HGL := Lib.hid hgl
  have HTG := Lib.hid htg
  have HSA := Lib.hid hsa
  clear hcell hit hnd hg hch hsw hcur hgl htg hsa
  obtain ⟨pu, hpu⟩ : ∃ pu, ptr (headB es) = .pointer pu := ⟨_, rfl⟩
  obtain ⟨pl, hpl⟩ : ∃ pl, ptr (cur.map fun x => x.1) = .pointer pl := ⟨_, rfl⟩
  rw [hpu, hpl]
  go_enter Tryz.func57, Tryz.ntmps57
  go_wp2_with fail
  go_loopg [31] is.length (fun g vi wr => ∃ k : Nat, k + g = is.length ∧ vi = .int .i64 k ∧ BInv lo H0 C A M0 w.heap.size es cur gd rep is w k wr)
  case atStart =>
    obtain ⟨q1, q2⟩ := blk_start lo H0 C A M0 w0 es cur gd rep w HG.out HCH.out HSW.out HCU.out HGL.out HTG.out hM hpu hpl rfl
    exact ⟨0, by omega, rfl, gd, rep, [], [], [], q1, q2, fun _ h => h, (fun a h => by rcases h with h | h <;> cases h), rfl⟩
  case round =>
    obtain ⟨k, hk, rfl, hI⟩ := hrel
    obtain ⟨gd', rep', labs', fs', bs', hL, hgf, hkeys, hnod, hjs⟩ := hI
    have hm := foldI_m (is.take k) (fun it hi => (HI.out it (List.mem_of_mem_take hi)).1) ⟨dsG gd, rep, [], []⟩
    rw [← hjs] at hm
    have hm2 : rep' + fs'.length ≤ rep + cntI (is.take k) := by simpa [jsOf, JS.m] using hm
    clear hm
    have hlow : ∀ j, j < H0 → wr.heap[j]? = w0.heap[j]? := fun j hj => (hgf.low j hj).trans (HSW.out j hj)
    have hlt' := hL.lt
    by_cases hlt : k < is.length
    · obtain ⟨it, hit⟩ : ∃ it, is[k]? = some it := ⟨_, List.getElem?_eq_getElem hlt⟩
      obtain ⟨hb0, hcl⟩ := HC.out k it hit
      have hsz : H0 ≤ wr.heap.size := hL.g.sz
      have hbl : b < wr.heap.size := by omega
      have hcl' : wr.cell? ⟨b, o + k, none⟩ = some it.v := (World.cell?_of_block (w := w0) (hlow b hb0)).trans hcl
      obtain rfl := HSA.out (by rintro rfl; simp at hlt)
      have hkI : (k : Int) < (is.length : Int) := by omega
      have hk0 : (0 : Int) ≤ (k : Int) := by omega
      have l10 : w.heap.size + 1 + 1 + 1 + 1 + 1 + 1 + 1 + 1 + 1 + 1 < wr.heap.size := by omega
      have c10 : wr.cell? ⟨w.heap.size + 1 + 1 + 1 + 1 + 1 + 1 + 1 + 1 + 1 + 1, 0, none⟩ = some (.func (.func 76) #[] (capsS w.heap.size)) := blk_cell hL.fc.z10 0
      have hc1 := cntI_take hit
      have hc2 := cntI_le (is := is) (k + 1)
      have hnd := nodup_at HN.out hit
      have hcall := (HI.out it (List.mem_of_getElem? hit)).2 w.heap.size gd' rep' labs' fs' bs' wr hL hlow (fun x h => by cases h) (by omega) (fun a ha => ⟨fun hh => hnd a ha (hnod a (.inr hh)), fun hh => hnd a ha (hnod a (.inl hh))⟩)
      have HCALL := Lib.hid hcall
      have HGF := Lib.hid hgf
      have HK := Lib.hid hkeys
      have HNO := Lib.hid hnod
      have HJS := Lib.hid hjs
      have HIT := Lib.hid hit
      clear hcall hgf hkeys hnod hjs hit hcl hL hlow hnd
      go_wp2_with fail
      refine (HCALL.out).mono ?_
      rintro e w2 ⟨rfl, gd2, rep2, labs2, fs2, bs2, q1, q2, q3, q4, q5⟩
      go_wp2_with fail
      go_roundg (gk - 1)
      case measure => omega
      refine ⟨k + 1, by omega, by simp, gd2, rep2, labs2, fs2, bs2, q1, HGF.out.trans q2, fun l hl => q3 l (HK.out l hl), fun a ha => ?_, by rw [q5, HJS.out, foldI_take HIT.out]⟩
      rw [nodesI_take HIT.out, List.mem_append]
      rcases q4 a ha with h | h | h
      · exact .inl (HNO.out a (.inl h))
      · exact .inl (HNO.out a (.inr h))
      · exact .inr h
    · have hkI : ¬ (k : Int) < (is.length : Int) := by omega
      obtain rfl : k = is.length := by omega
      obtain ⟨p0, vf, vb, r4, rp, r5, rf, r6, rb, rd⟩ := hL.lv
      have l5 : w.heap.size + 1 + 1 + 1 + 1 + 1 < wr.heap.size := by omega
      have c5 : wr.cell? ⟨w.heap.size + 1 + 1 + 1 + 1 + 1, 0, none⟩ = some vf := blk_cell r5 0
      obtain ⟨af, capf, rfl, _, _⟩ := row_form rf
      have HL := Lib.hid hL
      have HGF := Lib.hid hgf
      have HK := Lib.hid hkeys
      have HNO := Lib.hid hnod
      have HJS := Lib.hid hjs
      have HRF := Lib.hid rf
      clear hL hgf hkeys hnod hjs rf r4 r5 r6 rb rd hlow
      go_wp2_with fail
      go_ret
      have h1 := HJS.out
      have h2 := HNO.out
      rw [List.take_length] at h1 h2
      refine ⟨_, gd', rep', fs', rfl, by simpa using HRF.out, HL.out.g, HGF.out, HK.out, fun x hx => ⟨HL.out.gt x hx, h2 x.1 (.inl (List.mem_map_of_mem hx))⟩, ?_, ?_, ?_⟩
      · rw [← h1]; rfl
      · rw [← h1]; rfl
      · rw [← h1]
        simp [jsOf]
end Go.Proofs.YtpodifbgfcclbaaGreatDoor
