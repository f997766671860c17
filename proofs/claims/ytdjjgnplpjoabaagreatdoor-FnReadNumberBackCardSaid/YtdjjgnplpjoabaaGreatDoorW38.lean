/- 'FnReadNumberBack': the shortest decimal of a finite number without an exponent is read as that number, bit by bit: the law returns true at every float; its condition: the listed package-level variables read as the program's text lays them (the card ties that). -/
import Derived.Test.YtdjjgnplpjoabaaGreatDoorW37
import Derived.Test.YtdjjgnplpjoabaaGreatDoorTie
import Derived.Test.YtdjjgnplpjoabaaGreatDoorCards
import Derived.Lay
import Derived.SevenTiedAt
namespace Go.Proofs.YtdjjgnplpjoabaaGreatDoor
open Go.ChangeShapes Go.WideShapes Go.ChangeAt Go.RowKit
set_option maxRecDepth 100000

theorem own : ownKnob Tryz.prog.godebug = none := by kernel_rfl

theorem open_float {H : Type} {enc : TypeId × Value → H} {P : Program} {w : World} {base : Nat} {spare : Nat → Bool} {held : Bool} {r : Reach} {b0 : Nat} {t : TypeId} {k : FloatKind} {v : Value} {d : DataW H} {ps : List MemPlace} (ht : P.underlying t = some (.float k)) (hval : Value.okWide P w r b0 t v) (hd : DataW.Trod enc P w base spare held t v d ps) :
    ∃ b, v = .float k b ∧ d = .lit (.float k b) ∧ ps = [] ∧ (Lit.float k b).wf = true := by
  have hv : ∃ b, v = .float k b := by
    simp only [Value.okWide, ht, Cell.okWide] at hval
    cases v <;> simp_all [Cell.ok]
  obtain ⟨b, rfl⟩ := hv
  obtain ⟨fuel, hf⟩ := hd
  obtain ⟨b', h, hx, hw⟩ := trod_float ht hf
  simp [Value.cells] at h
  subst h
  simp only [Prod.mk.injEq] at hx
  exact ⟨b, rfl, hx.1, hx.2, hw⟩

theorem shut_float {H : Type} {enc : TypeId × Value → H} {P : Program} {w : World} {base : Nat} {spare : Nat → Bool} {held : Bool} {t : TypeId} {k : FloatKind} {b : Nat} (ht : P.underlying t = some (.float k)) (hw : (Lit.float k b).wf = true) : DataW.Trod enc P w base spare held t (.float k b) (.lit (.float k b)) [] :=
  ⟨1, by simp [DataW.trod, Value.cells, ht, hw]⟩

theorem var23 : (((begin Tryz.prog (fun _ _ => 0) default).world.heap[23]?).bind Obj.row?).isSome = true := by kernel_rfl
theorem many : Tryz.prog.globals.size = 24 := by kernel_rfl
theorem size_of_shaped {w : World} (h : w.ShapedOpen Tryz.prog) : 24 ≤ w.heap.size := by
  obtain ⟨h1, -⟩ := h
  cases hz : ((begin Tryz.prog (fun _ _ => 0) default).world.heap[23]?).bind Obj.row? with
  | none => have := var23; rw [hz] at this; cases this
  | some y =>
    obtain ⟨zero, t⟩ := y
    obtain ⟨cs, hc, -⟩ := h1 23 zero t (by rw [many]; decide) hz
    have := (Array.getElem?_eq_some_iff.1 hc).1
    omega

theorem fits : ∀ os, (World.holding Tryz.prog os ⟨#[], #[], []⟩).layFits Tryz.prog listed [] = true := fun os => by kernel_rfl
theorem ifaces : ∀ os, (World.holding Tryz.prog os ⟨#[], #[], []⟩).layIfaces Tryz.prog listed (World.laidAll Tryz.prog os listed) = true := fun os => by kernel_rfl

theorem lifted (os : Os) (started : os.Started) (H : Type) (enc : TypeId × Value → H) :
    ReturnsInHanded {} Tryz.checked os 3 .any (fun w args => (Rows.fnReadNumberBackSpec.pre enc Tryz.prog Tryz.f3 [] false w args ∧ laidMetH Tryz.prog listed w) ∧ sizedMet enc Tryz.prog Tryz.f3 (OpenSpec.ofChange Rows.fnReadNumberBackSpec) false w args)
      (Rows.fnReadNumberBackSpec.post enc Tryz.prog Tryz.f3 false true false false) := by
  refine returnsInHanded_of_calls (C := Tryz.checked) own started (by kernel_rfl)
    (ChangeSpec.witness_shaped (enc := enc) (C := Tryz.checked) (os := os) (X := fun w _ => laidMetH Tryz.prog listed w) false (World.laidAll Tryz.prog os listed) #[.float .f64 0] 8 (World.laidAll_os _ _ _)
      (World.shaped_of_ZipB (by kernel_rfl) (by kernel_rfl)) (by kernel_rfl) (by kernel_rfl) (by kernel_rfl)
      (by rw [MakeChecks.laidMetH_plain _ _ _ (by kernel_rfl)]; exact laidMet_laidAll _ (fits os) (ifaces os))) ?_
  intro w tape i _ hsh _ hok hpre _
  have hs := size_of_shaped hsh
  obtain ⟨_, _, _, fn', hfn', _, _, _, _, hval0⟩ := hok
  obtain rfl : fn' = Tryz.f3 := Option.some.inj (hfn'.symm.trans Tryz.func3)
  obtain ⟨⟨⟨ds, gs, before, hw, -⟩, hx⟩, -⟩ := hpre
  have hW := DataW.Whole.of_heap (w' := w.forCall tape i) (by rfl) hw
  have hL := laidMetH.of_heap (w' := w.forCall tape i) (by rfl) hx
  clear hw hx
  generalize w.forCall tape i = W at *
  generalize i.args = args at *
  have hval : ∀ (j : Nat) t v, Tryz.f3.params[j]? = some t → args[j]? = some v → Value.okWide Tryz.prog W .any _ t v := hval0
  have hW' := hW
  obtain ⟨p, q, hA0, hV, rfl, _, _⟩ := hW
  have hA : DataW.TrodAll enc Tryz.prog W 0 (fun _ => true) true Tryz.f3.params.toList args.toList ds p := hA0
  rw [Tryz.params3] at hA hval
  obtain ⟨v0, d0, rfl, rfl, h0⟩ := trodAll_one hA
  obtain ⟨rfl, rfl⟩ := trodVars_none hV
  obtain ⟨x, rfl, rfl, rfl, wx⟩ := open_float Tryz.underlying22 (hval 0 22 v0 rfl rfl) h0
  simp only [List.append_nil] at hW'
  have hx : x < 2 ^ 64 := by simpa [Lit.wf] using wx
  rw [MakeChecks.laidMetH_plain _ _ _ (by kernel_rfl)] at hL
  obtain ⟨ea, hG⟩ := ground_of hL hs
  refine (law_any x ea W hx hG).mono fun e W' ⟨he, hb⟩ => ?_
  subst he
  exact ChangeSpec.post_blind ⟨_, _, _, [], [], [], hW', trodAll_mk1 (shut_bool Tryz.underlying4 _), trodAll_mk1 (shut_float Tryz.underlying22 wx), rfl, hb.frame _, fun h => by cases h⟩

theorem row_holds : Rows.FnReadNumberBackSaid :=
  OpenClaim.holds_of_wide 3 Tryz.f3 rfl rfl rfl rfl rfl rfl rfl ⟨rfl, rfl, rfl, rfl, rfl⟩ rfl rfl rfl rfl rfl (by kernel_rfl) Tryz.func3 (by kernel_rfl)
    (of_decide_eq_true (by kernel_rfl)) (by unfold Func.isWrapper; first | (rw [if_pos (by decide +kernel)]; kernel_rfl) | (rw [if_neg (by decide +kernel)]; exact ⟨rfl, rfl⟩))
    (fun os started H enc _ => lifted os started H enc)

theorem fnReadNumberBack_holds : Rows.FnReadNumberBackCardSaid :=
  Claim7.holds_tied_plain_at .later [] [.data, .data, .widerDeep, .widerDeep, .data, .data, .data, .data, .data, .data, .sentinel, .sentinel, .sentinel, .sentinel, .data, .pinned, .pinned, .pinned] true (true, "563d0dde10feee52269a398e86ffb1a6ae181202e60d663300d6dedf1bfbb744") true row_holds (fun _ h => by cases h) (by kernel_rfl) (fun _ h => by cases h) fnReadNumberBack_row_tie rfl ⟨rfl, rfl⟩ (by kernel_rfl) rfl
    (fun f fn hf hfn => by
      obtain rfl : f = 3 := Option.some.inj ((show Tryz.prog.funcNamed "pub-alidade/laws.FnReadNumberBack" = some 3 by kernel_rfl).symm.trans hf) |>.symm
      obtain rfl : fn = Tryz.f3 := (Option.some.inj (Tryz.func3.symm.trans hfn)).symm
      exact ⟨by kernel_rfl, fun j t ht => by
        rw [Tryz.params3] at ht
        have hm : t ∈ [22] := by simpa using Array.mem_of_getElem? ht
        have hall : ([22].all fun u => !Tryz.prog.wantsStandIn u) = true := by kernel_rfl
        exact (show Tryz.prog.wantsStandIn t = false by simpa using List.all_eq_true.1 hall t hm)⟩)
    (by kernel_rfl)
#print axioms fnReadNumberBack_holds

end Go.Proofs.YtdjjgnplpjoabaaGreatDoor
