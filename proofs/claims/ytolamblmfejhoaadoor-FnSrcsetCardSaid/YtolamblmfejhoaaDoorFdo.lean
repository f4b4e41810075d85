/- What the rows' conditions give: strings.EqualFold at the names of schemes. -/
import Derived.Test.YtolamblmfejhoaaDoorEqf
import Derived.Test.YtolamblmfejhoaaDoorSafe
import Derived.Test.YtolamblmfejhoaaDoorRowB
import Derived.Test.YtolamblmfejhoaaDoorRowL
import Derived.Lib.LaidCase
namespace Go.Proofs.YtolamblmfejhoaaDoor
open Go.ChangeShapes Go.WideShapes Go.ChangeAt Go.RowKit Go.Shelf Go.Lib
set_option linter.unusedVariables false
set_option linter.unusedSimpArgs false

theorem oneFold_of {w : World} (h : FoldTab w) (p : ByteArray) (hp : (p.size : Int) ≤ 17179869184) (t : Bytes) (ht : t.length ≤ 100) (hl : Small t) : OneFold w p t := fun w' hw => by
  have := eqFold_any p ⟨t.toArray⟩ hp (by show t.toArray.size ≤ 100; simpa using ht) (by simpa using hl) w' (h.keep hw (Nat.le_refl _))
  simpa using this
theorem foldOk_of {w : World} (h : FoldTab w) : FoldOk w := fun p hp => ⟨oneFold_of h p hp _ (by decide) (by unfold Small; decide), oneFold_of h p hp _ (by decide) (by unfold Small; decide), oneFold_of h p hp _ (by decide) (by unfold Small; decide)⟩

def asciiList : List Int := (List.range 128).map fun r => (asciiN r : Int)
def orbPairs : List (Nat × Nat) := [(75, 107), (83, 115), (107, 8490), (115, 383), (181, 924), (197, 229), (223, 7838), (229, 8491), (304, 304), (305, 305), (383, 83), (452, 453), (453, 454), (454, 452), (455, 456), (456, 457), (457, 455), (458, 459), (459, 460), (460, 458), (497, 498), (498, 499), (499, 497), (837, 921), (912, 8147), (914, 946), (917, 949), (920, 952), (921, 953), (922, 954), (924, 956), (928, 960), (929, 961), (931, 962), (934, 966), (937, 969), (944, 8163), (946, 976), (949, 1013), (952, 977), (953, 8126), (954, 1008), (956, 181), (960, 982), (961, 1009), (962, 963), (963, 931), (966, 981), (969, 8486), (976, 914), (977, 1012), (981, 934), (982, 928), (1008, 922), (1009, 929), (1012, 920), (1013, 917), (1042, 1074), (1044, 1076), (1054, 1086), (1057, 1089), (1058, 1090), (1066, 1098), (1074, 7296), (1076, 7297), (1086, 7298), (1089, 7299), (1090, 7300), (1098, 7302), (1122, 1123), (1123, 7303), (7296, 1042), (7297, 1044), (7298, 1054), (7299, 1057), (7300, 7301), (7301, 1058), (7302, 1066), (7303, 1122), (7304, 42570), (7776, 7777), (7777, 7835), (7835, 7776), (7838, 223), (8126, 837), (8147, 912), (8163, 944), (8486, 937), (8490, 75), (8491, 197), (42570, 42571), (42571, 7304), (64261, 64262), (64262, 64261)]
def orbData : DataW Unit := .slice (orbPairs.map fun x => .agg ([(x.1 : Int), (x.2 : Int)].map fun z => .lit (.int .u16 z))) []
theorem asciifold_of {l : List (String × DataW Unit)} {W : World} (h : laidMetH Tryd.prog l W) (hn : (l.all fun x => x.2.handleName?.isNone) = true)
    (hm : ("unicode.asciiFold", Rows.laid_unicode_asciiFold) ∈ l) (r : Nat) (hr : r < 128) : W.cell? ⟨0, r, none⟩ = some (.int .u16 (asciiN r)) := by
  have h' := Lib.laidMet.reads (laid_plain h hn) hm
  have e : (Rows.laid_unicode_asciiFold : DataW Unit) = Lib.tabData .u16 asciiList := by kernel_rfl
  rw [e] at h'
  have := tab_cell (g := 0) (t := 83) (e := 82) (m := 128) (by kernel_rfl) (by kernel_rfl) (by kernel_rfl) (by kernel_rfl) (by kernel_rfl) (by kernel_rfl) h' r (by simpa [asciiList] using hr)
  rw [this]
  simp [asciiList, List.getD_eq_getElem?_getD, hr]
theorem orb_of {l : List (String × DataW Unit)} {W : World} (h : laidMetH Tryd.prog l W) (hn : (l.all fun x => x.2.handleName?.isNone) = true)
    (hm : ("unicode.caseOrbit", Rows.laid_unicode_caseOrbit) ∈ l) : ∃ R oR cap, OrbAt R oR cap W := by
  have h' := Lib.laidMet.reads (laid_plain h hn) hm
  have e : (Rows.laid_unicode_caseOrbit : DataW Unit) = orbData := by kernel_rfl
  rw [e] at h'
  obtain ⟨g, t, cs, fuel, p, hg, hty, hvar, hd⟩ := h'
  obtain rfl := Option.some.inj ((by kernel_rfl : Tryd.prog.globalNamed "unicode.caseOrbit" = some 1).symm.trans hg)
  obtain rfl := Option.some.inj ((by kernel_rfl : (Tryd.prog.globals[1]?).map (·.type) = some 84).symm.trans hty)
  rcases DataW.trod_slice Tryd.underlying84 hd with ⟨_, hx'⟩ | ⟨a', len, cap, el, rs, m, rfl, hc0, hx', _, hlc, _, hel, helem, hsp, _⟩
  · cases hx'
  have e0 := congrArg Prod.fst hx'
  simp only [orbData, DataW.slice.injEq] at e0
  obtain ⟨eE, eR⟩ := e0
  have hlen : len = 94 := by
    have := congrArg List.length eE
    rw [List.length_map, List.length_map] at this
    have h94 : orbPairs.length = 94 := by decide
    omega
  have hrow : ∀ i, i < 94 → ∀ j, j < 2 → W.cell? ((a'.add (i * 2)).add j) = ([.int .u16 ((orbPairs.getD i (0, 0)).1 : Int), .int .u16 ((orbPairs.getD i (0, 0)).2 : Int)] : List Value)[j]? := by
    intro i hi j hj
    have h1 := helem i (by omega)
    rw [(by kernel_rfl : Tryd.prog.cellsOf 86 = 2)] at h1
    obtain ⟨b, hb⟩ : ∃ b, el[i]? = some b := ⟨el[i]'(by omega), List.getElem?_eq_getElem (by omega)⟩
    rw [hb] at h1
    obtain ⟨ce, hce, hte⟩ := Option.bind_eq_some_iff.1 h1
    have hb1 : b.1 = .agg ([((orbPairs.getD i (0, 0)).1 : Int), ((orbPairs.getD i (0, 0)).2 : Int)].map fun z => .lit (.int .u16 z)) := by
      have := congrArg (·[i]?) eE
      have hi' : i < orbPairs.length := by have : orbPairs.length = 94 := by decide
                                           omega
      simp only [List.getElem?_map, hb, Option.map_some] at this
      rw [List.getElem?_eq_getElem hi'] at this
      simp only [Option.map_some, Option.some.injEq] at this
      rw [← this, List.getD_eq_getElem?_getD, List.getElem?_eq_getElem hi']
      rfl
    have hcs := ints_of_struct (t := 86) (k := .u16) Tryd.underlying86 (fun j f hj => by
      match j, hj with
      | 0, hj => simp at hj; subst hj; exact ⟨Tryd.underlying82, rfl, by kernel_rfl⟩
      | 1, hj => simp at hj; subst hj; exact ⟨Tryd.underlying82, rfl, by kernel_rfl⟩
      | j + 2, hj => simp at hj) (by kernel_rfl) (p := b.2) (by rw [← hb1]; exact hte)
    obtain ⟨_, _, hcc⟩ := World.cells?_some hce
    rw [hcc j hj, hcs]
    rfl
  obtain ⟨R, oR, sR⟩ := a'
  obtain rfl : sR = none := by
    have h00 := hrow 0 (by omega) 0 (by omega)
    have : (Addr.add (Addr.add ⟨R, oR, sR⟩ (0 * 2)) 0) = ⟨R, oR, sR⟩ := by simp [Addr.add]
    rw [this] at h00
    exact cell_spot h00
  refine ⟨R, oR, cap, ?_, fun i hi => ?_, ?_⟩
  · rw [World.var?_cell hg hvar 0, ← Array.getElem?_toList, hc0, hlen]
    rfl
  · have hlt : i < 94 := by
      unfold orbSet at hi
      simp at hi
      omega
    have := hrow i hlt 0 (by omega)
    rw [Addr.add_lit, Addr.add_lit] at this
    rw [show (orbN i : Int) = ((orbPairs.getD i (0, 0)).1 : Int) from ?_]
    · simpa using this
    · have : ∀ i ∈ orbSet, (orbN i : Int) = ((orbPairs.getD i (0, 0)).1 : Int) := by decide
      exact this i hi
  · have := hrow 10 (by omega) 1 (by omega)
    rw [Addr.add_lit, Addr.add_lit] at this
    exact this
theorem foldtab_of {l : List (String × DataW Unit)} {W : World} (h : laidMetH Tryd.prog l W) (hn : (l.all fun x => x.2.handleName?.isNone) = true)
    (h1 : ("unicode.asciiFold", Rows.laid_unicode_asciiFold) ∈ l) (h2 : ("unicode.caseOrbit", Rows.laid_unicode_caseOrbit) ∈ l) : FoldTab W := ⟨fun r hr => asciifold_of h hn h1 r hr, orb_of h hn h2⟩
end Go.Proofs.YtolamblmfejhoaaDoor
