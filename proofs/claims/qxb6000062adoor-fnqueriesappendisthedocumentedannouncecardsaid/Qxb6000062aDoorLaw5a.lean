import Derived.Test.Qxb6000062aDoorParse
import Derived.Test.Qxb6000062aDoorLaw3
import Derived.Test.Qxb6000062aDoorLaw6
import Derived.Test.Qxb6000062aDoorLaw7
/-! What the walk of FnQueriesAppendIsTheDocumentedAnnounce leans on: zzBytes13, zzWantKey, the fields one by one. -/
namespace Go.Proofs.Qxb6000062aDoor.pm
open Go Go.RowKit Go.Lib Go.Sort
set_option linter.unusedVariables false

set_option maxHeartbeats 1600000 in
theorem zzBytes13_some (b off len cap : Nat) (ss : List ByteArray) (a2 : Option Addr) (m cap2 : Nat) (x y z : Int) (w : World) (hl : len ≤ ss.length) (hlen : len ≤ 9223372036854775807) (hm2 : m ≤ 9223372036854775807)
    (hc : ∀ j, j < ss.length → w.cell? ⟨b, off + j, none⟩ = some (.string (ss.getD j ByteArray.empty))) (hm : ∀ j, j < ss.length → (ss.getD j ByteArray.empty).size ≤ 9223372036854775807) :
    Calls Tryd.prog 13 #[.int .i64 x, .int .i64 y, .slice (some ⟨b, off, none⟩) len cap, .slice a2 m cap2, .int .i64 z] w fun e w' => IsBool e ∧ w = w' := by
  by_cases h1 : len ≤ 1048576
  · go_enter Tryd.func13, Tryd.ntmps13
    go_wp2
    go_loop [11, 12] (fun t i => ∃ (j : Nat) (T : Nat), j ≤ len ∧ i = .int .i64 j ∧ t = .int .i64 T ∧ T ≤ 1048576) (fun _ i => len - (RowKit.intOf i).toNat)
    case atStart => exact ⟨0, len, Nat.zero_le _, rfl, by go_num, by omega⟩
    case round =>
      obtain ⟨j, T, hj, rfl, rfl, hT⟩ := hrel
      by_cases hlt : j < len
      · have hcx := hc j (by omega)
        have hmx := hm j (by omega)
        generalize ss.getD j ByteArray.empty = s at hcx hmx
        clear hc hm
        by_cases hb1 : (1048576 : Int) < s.size
        · go_wp2
          go_ret
          exact ⟨⟨false, rfl⟩, rfl⟩
        · by_cases hb2 : (1048576 : Int) < (T : Int) + s.size
          · go_wp2
            go_ret
            exact ⟨⟨false, rfl⟩, rfl⟩
          · go_wp2
            go_round
            case rel => exact ⟨j + 1, T + s.size, by omega, by go_num, by go_num, by omega⟩
            case measure => simp [RowKit.intOf]; omega
      · by_cases hb1 : (1048576 : Int) < m
        · go_wp2
          go_ret
          exact ⟨⟨false, rfl⟩, rfl⟩
        · by_cases hb2 : (1048576 : Int) < (T : Int) + m
          · go_wp2
            go_ret
            exact ⟨⟨false, rfl⟩, rfl⟩
          · go_wp2
            go_ret
            exact ⟨⟨true, rfl⟩, rfl⟩
  · go_enter Tryd.func13, Tryd.ntmps13
    go_wp2
    go_ret
    exact ⟨⟨false, rfl⟩, rfl⟩

theorem zzBytes13_empty (a : Option Addr) (cap : Nat) (a2 : Option Addr) (m cap2 : Nat) (x y z : Int) (w : World) (hm2 : m ≤ 9223372036854775807) :
    Calls Tryd.prog 13 #[.int .i64 x, .int .i64 y, .slice a 0 cap, .slice a2 m cap2, .int .i64 z] w fun e w' => IsBool e ∧ w = w' := by
  by_cases hb1 : (1048576 : Int) < m
  · go_enter Tryd.func13, Tryd.ntmps13
    go_wp2
    refine wp_loop_rounds 1 ?_
    rw [rounds_succ]
    go_wp2
    go_ret
    exact ⟨⟨false, rfl⟩, rfl⟩
  · go_enter Tryd.func13, Tryd.ntmps13
    go_wp2
    refine wp_loop_rounds 1 ?_
    rw [rounds_succ]
    go_wp2
    go_ret
    exact ⟨⟨true, rfl⟩, rfl⟩

theorem zzBytes13_any (a : Option Addr) (len cap : Nat) (ss : List ByteArray) (a2 : Option Addr) (m cap2 : Nat) (x y z : Int) (w : World) (h : SRow w a len cap ss) (hlen : len ≤ 9223372036854775807) (hm2 : m ≤ 9223372036854775807) :
    Calls Tryd.prog 13 #[.int .i64 x, .int .i64 y, .slice a len cap, .slice a2 m cap2, .int .i64 z] w fun e w' => IsBool e ∧ w = w' := by
  rcases h.cases with rfl | ⟨b, off, rfl, h1, h2, h3⟩
  · exact zzBytes13_empty a cap a2 m cap2 x y z w hm2
  · exact zzBytes13_some b off len cap ss a2 m cap2 x y z w h1 hlen hm2 h2 h3

theorem wantKey0 (w : World) : Calls Tryd.prog 20 #[.int .i64 0] w fun e w' => e = .returned (.string ⟨#[105, 110, 102, 111, 95, 104, 97, 115, 104]⟩) ∧ w = w' := by
  go_enter Tryd.func20, Tryd.ntmps20
  go_wp2
  go_ret
  exact ⟨rfl, rfl⟩
theorem keyAt0 {w : World} {v : Value} {V : List UInt8} (hf : FieldAt w v kInfo V) :
    Calls Tryd.prog 19 #[v] w fun e w' => ∃ g o c, e = .returned (.tuple #[.string ⟨#[105, 110, 102, 111, 95, 104, 97, 115, 104]⟩, .slice (some ⟨g, o, none⟩) V.length c, .bool true]) ∧ Below w.heap.size w w' ∧ ValAt w' g o c V := keyVal_at hf
theorem wantKey1 (w : World) : Calls Tryd.prog 20 #[.int .i64 1] w fun e w' => e = .returned (.string ⟨#[112, 101, 101, 114, 95, 105, 100]⟩) ∧ w = w' := by
  go_enter Tryd.func20, Tryd.ntmps20
  go_wp2
  go_ret
  exact ⟨rfl, rfl⟩
theorem keyAt1 {w : World} {v : Value} {V : List UInt8} (hf : FieldAt w v kPeer V) :
    Calls Tryd.prog 19 #[v] w fun e w' => ∃ g o c, e = .returned (.tuple #[.string ⟨#[112, 101, 101, 114, 95, 105, 100]⟩, .slice (some ⟨g, o, none⟩) V.length c, .bool true]) ∧ Below w.heap.size w w' ∧ ValAt w' g o c V := keyVal_at hf
theorem wantKey2 (w : World) : Calls Tryd.prog 20 #[.int .i64 2] w fun e w' => e = .returned (.string ⟨#[112, 111, 114, 116]⟩) ∧ w = w' := by
  go_enter Tryd.func20, Tryd.ntmps20
  go_wp2
  go_ret
  exact ⟨rfl, rfl⟩
theorem keyAt2 {w : World} {v : Value} {V : List UInt8} (hf : FieldAt w v kPort V) :
    Calls Tryd.prog 19 #[v] w fun e w' => ∃ g o c, e = .returned (.tuple #[.string ⟨#[112, 111, 114, 116]⟩, .slice (some ⟨g, o, none⟩) V.length c, .bool true]) ∧ Below w.heap.size w w' ∧ ValAt w' g o c V := keyVal_at hf
theorem wantKey3 (w : World) : Calls Tryd.prog 20 #[.int .i64 3] w fun e w' => e = .returned (.string ⟨#[117, 112, 108, 111, 97, 100, 101, 100]⟩) ∧ w = w' := by
  go_enter Tryd.func20, Tryd.ntmps20
  go_wp2
  go_ret
  exact ⟨rfl, rfl⟩
theorem keyAt3 {w : World} {v : Value} {V : List UInt8} (hf : FieldAt w v kUp V) :
    Calls Tryd.prog 19 #[v] w fun e w' => ∃ g o c, e = .returned (.tuple #[.string ⟨#[117, 112, 108, 111, 97, 100, 101, 100]⟩, .slice (some ⟨g, o, none⟩) V.length c, .bool true]) ∧ Below w.heap.size w w' ∧ ValAt w' g o c V := keyVal_at hf
theorem wantKey4 (w : World) : Calls Tryd.prog 20 #[.int .i64 4] w fun e w' => e = .returned (.string ⟨#[100, 111, 119, 110, 108, 111, 97, 100, 101, 100]⟩) ∧ w = w' := by
  go_enter Tryd.func20, Tryd.ntmps20
  go_wp2
  go_ret
  exact ⟨rfl, rfl⟩
theorem keyAt4 {w : World} {v : Value} {V : List UInt8} (hf : FieldAt w v kDown V) :
    Calls Tryd.prog 19 #[v] w fun e w' => ∃ g o c, e = .returned (.tuple #[.string ⟨#[100, 111, 119, 110, 108, 111, 97, 100, 101, 100]⟩, .slice (some ⟨g, o, none⟩) V.length c, .bool true]) ∧ Below w.heap.size w w' ∧ ValAt w' g o c V := keyVal_at hf
theorem wantKey5 (w : World) : Calls Tryd.prog 20 #[.int .i64 5] w fun e w' => e = .returned (.string ⟨#[108, 101, 102, 116]⟩) ∧ w = w' := by
  go_enter Tryd.func20, Tryd.ntmps20
  go_wp2
  go_ret
  exact ⟨rfl, rfl⟩
theorem keyAt5 {w : World} {v : Value} {V : List UInt8} (hf : FieldAt w v kLeft V) :
    Calls Tryd.prog 19 #[v] w fun e w' => ∃ g o c, e = .returned (.tuple #[.string ⟨#[108, 101, 102, 116]⟩, .slice (some ⟨g, o, none⟩) V.length c, .bool true]) ∧ Below w.heap.size w w' ∧ ValAt w' g o c V := keyVal_at hf
theorem wantKey6 (w : World) : Calls Tryd.prog 20 #[.int .i64 6] w fun e w' => e = .returned (.string ⟨#[99, 111, 109, 112, 97, 99, 116]⟩) ∧ w = w' := by
  go_enter Tryd.func20, Tryd.ntmps20
  go_wp2
  go_ret
  exact ⟨rfl, rfl⟩
theorem keyAt6 {w : World} {v : Value} {V : List UInt8} (hf : FieldAt w v kComp V) :
    Calls Tryd.prog 19 #[v] w fun e w' => ∃ g o c, e = .returned (.tuple #[.string ⟨#[99, 111, 109, 112, 97, 99, 116]⟩, .slice (some ⟨g, o, none⟩) V.length c, .bool true]) ∧ Below w.heap.size w w' ∧ ValAt w' g o c V := keyVal_at hf
theorem wantKey7 (w : World) : Calls Tryd.prog 20 #[.int .i64 7] w fun e w' => e = .returned (.string ⟨#[110, 117, 109, 119, 97, 110, 116]⟩) ∧ w = w' := by
  go_enter Tryd.func20, Tryd.ntmps20
  go_wp2
  go_ret
  exact ⟨rfl, rfl⟩
theorem keyAt7 {w : World} {v : Value} {V : List UInt8} (hf : FieldAt w v kNum V) :
    Calls Tryd.prog 19 #[v] w fun e w' => ∃ g o c, e = .returned (.tuple #[.string ⟨#[110, 117, 109, 119, 97, 110, 116]⟩, .slice (some ⟨g, o, none⟩) V.length c, .bool true]) ∧ Below w.heap.size w w' ∧ ValAt w' g o c V := keyVal_at hf
theorem wantKey8 (w : World) : Calls Tryd.prog 20 #[.int .i64 8] w fun e w' => e = .returned (.string ⟨#[101, 118, 101, 110, 116]⟩) ∧ w = w' := by
  go_enter Tryd.func20, Tryd.ntmps20
  go_wp2
  go_ret
  exact ⟨rfl, rfl⟩
theorem keyAt8 {w : World} {v : Value} {V : List UInt8} (hf : FieldAt w v kEvent V) :
    Calls Tryd.prog 19 #[v] w fun e w' => ∃ g o c, e = .returned (.tuple #[.string ⟨#[101, 118, 101, 110, 116]⟩, .slice (some ⟨g, o, none⟩) V.length c, .bool true]) ∧ Below w.heap.size w w' ∧ ValAt w' g o c V := keyVal_at hf

/-- the fields, one by one -/
def F8 (w : World) (gf : Nat) (p k : Nat) (left : Int) (h : List UInt8) : Prop :=
  (∃ v, w.cell? ⟨gf, 0, none⟩ = some v ∧ FieldAt w v kInfo h) ∧
  (∃ v, w.cell? ⟨gf, 1, none⟩ = some v ∧ FieldAt w v kPeer (sTL ++ peerText p)) ∧
  (∃ v, w.cell? ⟨gf, 2, none⟩ = some v ∧ FieldAt w v kPort (itoa (1024 + (k : Int) % 60000))) ∧
  (∃ v, w.cell? ⟨gf, 3, none⟩ = some v ∧ FieldAt w v kUp [48]) ∧
  (∃ v, w.cell? ⟨gf, 4, none⟩ = some v ∧ FieldAt w v kDown [48]) ∧
  (∃ v, w.cell? ⟨gf, 5, none⟩ = some v ∧ FieldAt w v kLeft (itoa left)) ∧
  (∃ v, w.cell? ⟨gf, 6, none⟩ = some v ∧ FieldAt w v kComp [49]) ∧
  (∃ v, w.cell? ⟨gf, 7, none⟩ = some v ∧ FieldAt w v kNum (itoa 50))

theorem fields_later {w : World} {gf : Nat} (p k : Nat) (left : Int) (h : List UInt8) (st : Prop) [Decidable st] (hs : ¬ st) (hF : ∀ j (hj : j < (kvs p k left h st).length), ∃ v, w.cell? ⟨gf, j, none⟩ = some v ∧ FieldAt w v (kvs p k left h st)[j].1 (kvs p k left h st)[j].2) :
    (kvs p k left h st).length = 8 ∧ F8 w gf p k left h := by
  have e : kvs p k left h st = kvBase p k left h := by unfold kvs; rw [if_neg hs]
  rw [e] at hF ⊢
  exact ⟨rfl, hF 0 (by show 0 < 8; decide), hF 1 (by show 1 < 8; decide), hF 2 (by show 2 < 8; decide), hF 3 (by show 3 < 8; decide), hF 4 (by show 4 < 8; decide), hF 5 (by show 5 < 8; decide), hF 6 (by show 6 < 8; decide), hF 7 (by show 7 < 8; decide)⟩
theorem fields_first {w : World} {gf : Nat} (p k : Nat) (left : Int) (h : List UInt8) (st : Prop) [Decidable st] (hs : st) (hF : ∀ j (hj : j < (kvs p k left h st).length), ∃ v, w.cell? ⟨gf, j, none⟩ = some v ∧ FieldAt w v (kvs p k left h st)[j].1 (kvs p k left h st)[j].2) :
    (kvs p k left h st).length = 9 ∧ F8 w gf p k left h ∧ ∃ v, w.cell? ⟨gf, 8, none⟩ = some v ∧ FieldAt w v kEvent sStarted := by
  have e : kvs p k left h st = kvBase p k left h ++ [(kEvent, sStarted)] := by unfold kvs; rw [if_pos hs]
  rw [e] at hF ⊢
  exact ⟨rfl, ⟨hF 0 (by show 0 < 9; decide), hF 1 (by show 1 < 9; decide), hF 2 (by show 2 < 9; decide), hF 3 (by show 3 < 9; decide), hF 4 (by show 4 < 9; decide), hF 5 (by show 5 < 9; decide), hF 6 (by show 6 < 9; decide), hF 7 (by show 7 < 9; decide)⟩, hF 8 (by show 8 < 9; decide)⟩

/-- 'string(val)' -/
theorem val_string {w : World} {g o c : Nat} {V : List UInt8} (s : ByteArray) (h : ValAt w g o c V) (hs : s.data.toList = V) : (convert 22 9 (.slice (some ⟨g, o, none⟩) V.length c)).run Tryd.prog w = .ok (.string s) w := by
  have e : s = ⟨V.toArray⟩ := by rw [← hs]
  rw [e]
  exact run_convert_bytes_back (P := Tryd.prog) w 22 9 5 ⟨g, o, none⟩ c V Tryd.underlying22 Tryd.underlying5 Tryd.underlying9 (fun l hl => by rw [add_plain]; exact h.2.2.2 l hl)

/-- a field whose value is a plain numeral -/
theorem canon_at {w : World} {g o c : Nat} (n : Int) (u : Nat) (hn : n = (u : Int)) (hu : u ≤ 9223372036854775807) (h : ValAt w g o c (itoa n)) :
    Calls Tryd.prog 22 #[.slice (some ⟨g, o, none⟩) (itoa n).length c, .int .u64 n] w fun e w' => e = .returned (.bool true) ∧ w = w' := by
  subst hn
  rw [itoa_nonneg] at h ⊢
  exact zzIsCanon_any g o c u w h hu
end Go.Proofs.Qxb6000062aDoor.pm
