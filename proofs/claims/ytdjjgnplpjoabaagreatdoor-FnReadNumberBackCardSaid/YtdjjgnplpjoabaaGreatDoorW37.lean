/- What the listed variables hold gives all that the walk leans on; its condition: they read as the row lists them, the heap holds the program's variables. -/
import Derived.Test.YtdjjgnplpjoabaaGreatDoorW36
import Derived.ProofKit
import Derived.PinnedBridge
import Derived.Stop.LaidErr
import Derived.OpenShut
import Derived.LaidSub
namespace Go.Proofs.YtdjjgnplpjoabaaGreatDoor
open Go.RowKit Go.Lib
set_option maxRecDepth 100000

abbrev listed : List (String × DataW Unit) := Rows.fnReadNumberBackRow.laid

section
variable {W : World}

theorem cell_of_reads {n : String} {d : DataW Unit} {g : Nat} {t : TypeId} (h : VarReads Tryz.prog W n d) (hg : Tryz.prog.globalNamed n = some g) (ht : (Tryz.prog.globals[g]?).map (·.type) = some t) :
    ∃ cs fuel p, (∀ i : Nat, W.cell? ⟨g, i, none⟩ = (cs : Array Value)[i]?) ∧ W.var? Tryz.prog n = some cs ∧ DataW.trod (fun _ => ()) Tryz.prog W 0 (fun _ => true) false fuel t cs.toList = some (d, p) := by
  obtain ⟨g', t', cs, fuel, p, h1, h2, h3, h4⟩ := h
  obtain rfl := Option.some.inj (hg.symm.trans h1)
  obtain rfl := Option.some.inj (ht.symm.trans h2)
  exact ⟨cs, fuel, p, fun i => World.var?_cell h1 h3 i, h3, h4⟩

theorem opt_of (h : laidMet Tryz.prog listed W) : W.cell? ⟨2, 0, none⟩ = some (.bool true) := by
  have hr := Lib.laidMet.reads h (n := "internal/strconv.optimize") (d := .lit (.bool true)) (List.mem_of_getElem? (i := 4) rfl)
  obtain ⟨cs, fuel, p, hc, -, hd⟩ := cell_of_reads (g := 2) (t := 4) hr (by kernel_rfl) (by kernel_rfl)
  obtain ⟨b, e1, e2⟩ := DataW.trod_bool Tryz.underlying4 hd
  simp only [Prod.mk.injEq, DataW.lit.injEq, Lit.bool.injEq] at e2
  rw [hc 0, ← Array.getElem?_toList, e1, ← e2.1]
  rfl

theorem trod_float {H : Type} {enc : TypeId × Value → H} {P : Program} {w : World} {base : Nat} {spare : Nat → Bool} {held : Bool} {fuel : Nat} {t : TypeId} {cs : List Value} {x : DataW H × List MemPlace} {k : FloatKind} (ht : P.underlying t = some (.float k)) (h : DataW.trod enc P w base spare held fuel t cs = some x) :
    ∃ b, cs = [.float k b] ∧ x = (.lit (.float k b), []) ∧ (Lit.float k b).wf = true := by
  cases fuel with
  | zero => simp [DataW.trod] at h
  | succ n =>
    unfold DataW.trod at h
    rw [ht] at h
    split at h <;> simp_all

theorem info_of (h : laidMet Tryz.prog listed W) : W.cell? ⟨13, 0, none⟩ = some (.int .u64 52) := by
  have hr := Lib.laidMet.reads h (n := "internal/strconv.float64info") (d := Rows.laid_internal_strconv_float64info) (List.mem_of_getElem? (i := 3) rfl)
  obtain ⟨cs, fuel, p, hc, -, hd⟩ := cell_of_reads (g := 13) (t := 175) hr (by kernel_rfl) (by kernel_rfl)
  obtain ⟨xs, n, -, hx, hl, hxl, hf⟩ := DataW.trod_struct Tryz.underlying175 hd
  have h0 := hf 0 _ rfl
  have hxl' : xs.length = 3 := hxl
  obtain ⟨y, hy⟩ : ∃ y, xs[0]? = some y := ⟨xs[0]'(by omega), List.getElem?_eq_getElem (by omega)⟩
  rw [hy] at h0
  obtain ⟨z, e1, e2, -⟩ := DataW.trod_int Tryz.underlying49 h0
  have c49 : Tryz.prog.cellsOf 49 = 1 := by kernel_rfl
  have e1' : (cs.toList.drop 0).take (Tryz.prog.cellsOf 49) = [.int .u64 z] := e1
  rw [c49] at e1'
  have hz : z = 52 := by
    have h1 := congrArg Prod.fst hx
    simp only [Rows.laid_internal_strconv_float64info, DataW.agg.injEq] at h1
    have h2 := congrArg (·[0]?) h1
    simp only [List.getElem?_map, hy, e2] at h2
    simpa using h2.symm
  have e3 : cs.toList[0]? = some (.int .u64 z) := by
    have h3 := congrArg (·[0]?) e1'
    simpa [List.getElem?_take] using h3
  rw [hc 0, ← Array.getElem?_toList, e3, hz]

theorem pow_of (h : laidMet Tryz.prog listed W) : Lib.TabIs Tryz.prog W "internal/strconv.uint64pow10" .u64 Lib.pow10Tab := by
  have hr := Lib.laidMet.reads h (n := "internal/strconv.uint64pow10") (d := Rows.laid_internal_strconv_uint64pow10) (List.mem_of_getElem? (i := 8) rfl)
  obtain ⟨cs, fuel, p, hc, hv, hd⟩ := cell_of_reads (g := 3) (t := 125) hr (by kernel_rfl) (by kernel_rfl)
  have e : (Rows.laid_internal_strconv_uint64pow10 : DataW Unit) = tabData .u64 Lib.pow10Tab := by kernel_rfl
  rw [e] at hd
  have hcs := cells_of_tab Tryz.underlying125 Tryz.underlying27 (by kernel_rfl) (by kernel_rfl) hd
  unfold Lib.TabIs
  rw [hv, ← hcs]

theorem utf_of (h : laidMet Tryz.prog listed W) (c : Int) (h1 : 45 ≤ c) (h2 : c ≤ 57) : W.cell? ⟨9, c.toNat, none⟩ = some (.int .u8 240) := by
  have hr := Lib.laidMet.reads h (n := "unicode/utf8.first") (d := Rows.laid_unicode_utf8_first) (List.mem_of_getElem? (i := 17) rfl)
  obtain ⟨cs, fuel, p, hc, hv, hd⟩ := cell_of_reads (g := 9) (t := 162) hr (by kernel_rfl) (by kernel_rfl)
  have e : Rows.laid_unicode_utf8_first = tabData .u8 firstTab := Pinned.utf8First_eq
  rw [e] at hd
  have hcs := cells_of_tab Tryz.underlying162 Tryz.underlying5 (by kernel_rfl) (by kernel_rfl) hd
  rw [hc, ← Array.getElem?_toList, hcs]
  have h' : c = 45 ∨ c = 46 ∨ c = 47 ∨ c = 48 ∨ c = 49 ∨ c = 50 ∨ c = 51 ∨ c = 52 ∨ c = 53 ∨ c = 54 ∨ c = 55 ∨ c = 56 ∨ c = 57 := by omega
  rcases h' with rfl | rfl | rfl | rfl | rfl | rfl | rfl | rfl | rfl | rfl | rfl | rfl | rfl <;> rfl

theorem tab_of (h : laidMet Tryz.prog listed W) : Tab W := by
  have hr := Lib.laidMet.reads h (n := "internal/strconv.pow10Tab") (d := Rows.laid_internal_strconv_pow10Tab) (List.mem_of_getElem? (i := 16) rfl)
  obtain ⟨cs, fuel, p, hc, hv, hd⟩ := cell_of_reads (g := 7) (t := 153) hr (by kernel_rfl) (by kernel_rfl)
  intro p hp1 hp2
  have c152 : Tryz.prog.cellsOf 152 = 2 := by kernel_rfl
  have hrows : Go.Pinned.pow10Rows.length = 696 := by kernel_rfl
  have hi : (p + 348).toNat < 696 := by omega
  generalize hi2 : (p + 348).toNat = i at *
  obtain ⟨fuel', d, q, hdd, hel⟩ := array_elem (ds := Go.Pinned.pow10Rows.map fun x => .agg [.lit (.int .u64 x.1), .lit (.int .u64 x.2)]) Tryz.underlying153 hd i hi
  have hrow : Go.Pinned.pow10Rows[i]? = some (FB.tabAt p) := by
    unfold FB.tabAt
    rw [hi2, List.getD_eq_getElem?_getD, List.getElem?_eq_getElem (by omega)]
    rfl
  have hdv : d = .agg (([(FB.tabAt p).1, (FB.tabAt p).2].map fun (x : Nat) => (x : Int)).map fun z => .lit (.int .u64 z)) := by
    rw [List.getElem?_map, hrow] at hdd
    simpa using hdd.symm
  rw [hdv] at hel
  have hcs := ints_of_struct (k := .u64) Tryz.underlying152 (fun j f hj => by
    have hj2 : j < 2 := by
      rcases Nat.lt_or_ge j 2 with h | h
      · exact h
      · rw [Array.getElem?_eq_none h] at hj; cases hj
    have hj3 : j = 0 ∨ j = 1 := by omega
    rcases hj3 with rfl | rfl <;> (cases hj; exact ⟨Tryz.underlying27, rfl, by kernel_rfl⟩)) (by kernel_rfl) hel
  rw [c152] at hcs
  have g : ∀ k v, ((cs.toList.drop (i * 2)).take 2)[k]? = some v → W.cell? ⟨7, i * 2 + k, none⟩ = some v := fun k v hk => by
    rw [hc, ← Array.getElem?_toList]
    rw [List.getElem?_take] at hk
    split at hk
    · rwa [List.getElem?_drop] at hk
    · cases hk
  exact ⟨g 0 _ (by rw [hcs]; rfl), g 1 _ (by rw [hcs]; rfl)⟩

theorem eof_of (h : laidMet Tryz.prog listed W) : ∃ ea, W.cell? ⟨4, 0, none⟩ = some (.iface 188 (.pointer (some ea))) := by
  have h1 : laidMet Tryz.prog [("io.EOF", Rows.laid_io_EOF)] W := laidMet.filter (fun x => x.1 == "io.EOF") h
  have hstar : "*" ++ "errors.errorString" = "*errors.errorString" := by decide
  have hrow : ∀ u, Tryz.prog.typeName? 3 u = some "*errors.errorString" → u = 188 := fun u hu =>
    typeName_ptr_named (nm := "errors.errorString") (by rw [hstar]; kernel_rfl) (by kernel_rfl) (by decide) u (by rw [hstar]; exact hu)
  obtain ⟨a, s, hv, -⟩ := laid_sentinel (tp := 188) (te := 190) (ts := 9) h1 (g := 4) (ti := 31) (by kernel_rfl) (by kernel_rfl) Tryz.underlying31 hrow Tryz.underlying188 Tryz.underlying190 rfl rfl Tryz.underlying9 (by kernel_rfl) (by kernel_rfl)
  refine ⟨a, ?_⟩
  have := World.var?_cell (P := Tryz.prog) (n := "io.EOF") (g := 4) (by kernel_rfl) hv 0
  simpa using this

/-- A slice of floats. -/
theorem floats_of (h : laidMet Tryz.prog listed W) : ∃ g off, W.cell? ⟨16, 0, none⟩ = some (.slice (some ⟨g, off, none⟩) 23 23) ∧ ∀ k, k < 23 → W.cell? ⟨g, off + k, none⟩ = some (.float .f64 (FB.tenBits.getD k 0)) := by
  have hr := Lib.laidMet.reads h (n := "internal/strconv.float64pow10") (d := Rows.laid_internal_strconv_float64pow10) (List.mem_of_getElem? (i := 6) rfl)
  obtain ⟨cs, fuel, p, hc, hv, hd⟩ := cell_of_reads (g := 16) (t := 200) hr (by kernel_rfl) (by kernel_rfl)
  have e : (Rows.laid_internal_strconv_float64pow10 : DataW Unit) = .slice (FB.tenBits.map fun b => .lit (.float .f64 b)) [] := by kernel_rfl
  rw [e] at hd
  rcases DataW.trod_slice Tryz.underlying200 hd with ⟨-, hx⟩ | ⟨a, len, cap, elems, rest, n, -, hcs, hx, -, hlc, -, hel, hat, hsp, -⟩
  · simp at hx
  · have c22 : Tryz.prog.cellsOf 22 = 1 := by kernel_rfl
    simp only [Prod.mk.injEq, DataW.slice.injEq] at hx
    obtain ⟨⟨hx1, hx2⟩, -⟩ := hx
    have hr0 : rest = [] := by simpa using hx2.symm
    obtain ⟨hrl, -⟩ := hsp rfl
    have hl : elems.length = 23 := by
      have := congrArg List.length hx1
      rw [List.length_map, List.length_map] at this
      exact this.symm.trans (by decide)
    rw [hr0] at hrl
    simp only [List.length_nil] at hrl
    obtain rfl : len = 23 := by omega
    obtain rfl : cap = 23 := by omega
    have hk : ∀ k, k < 23 → W.cell? (a.add k) = some (.float .f64 (FB.tenBits.getD k 0)) := fun k hk => by
      have h1 := hat k hk
      rw [c22, Nat.mul_one] at h1
      obtain ⟨y, hy⟩ : ∃ y, elems[k]? = some y := ⟨elems[k]'(by omega), List.getElem?_eq_getElem (by omega)⟩
      rw [hy] at h1
      obtain ⟨cs', hcs', hd'⟩ := Option.bind_eq_some_iff.1 h1
      obtain ⟨-, hcl, hca⟩ := World.cells?_some hcs'
      obtain ⟨b, e1, e2, -⟩ := trod_float Tryz.underlying22 hd'
      have h2 := congrArg (·[k]?) hx1
      simp only [List.getElem?_map, hy, e2] at h2
      have hbit : FB.tenBits[k]? = some b := by
        cases hq : FB.tenBits[k]? with
        | none => rw [hq] at h2; simp at h2
        | some b' => rw [hq] at h2; simp at h2; rw [h2]
      have h3 := hca 0 (by decide)
      rw [e1] at h3
      have e0 : (a.add k).add 0 = a.add k := by unfold Addr.add; simp
      rw [e0] at h3
      rw [h3, List.getD_eq_getElem?_getD, hbit]
      rfl
    obtain ⟨b, off, spot⟩ := a
    have hspot : spot = none := by
      have := World.cell?_spot (hk 0 (by decide))
      simpa [Addr.add] using this
    subst hspot
    refine ⟨b, off, ?_, fun k hk' => ?_⟩
    · rw [hc 0, ← Array.getElem?_toList, hcs]; rfl
    · have := hk k hk'
      rwa [Go.WideShapes.add_plain] at this

/-- All of it. -/
theorem ground_of (h : laidMet Tryz.prog listed W) (hs : 24 ≤ W.heap.size) : ∃ ea, Ground ea W := by
  obtain ⟨ea, he⟩ := eof_of h
  exact ⟨ea, ⟨tab_of h, pow_of h, hs⟩, ⟨tab_of h, hs, info_of h, opt_of h, floats_of h⟩, he, utf_of h⟩

end
end Go.Proofs.YtdjjgnplpjoabaaGreatDoor
