/-
  The package's reader of JSON, walked: Read's push of what is open, as a region alone.
-/
import Derived.Test.YtjkmmhnhhiopiaaDoorDSwitch
import Derived.Deep.RegionHeld3
import Derived.Deep.RegionLaw
namespace Go.Proofs.YtjkmmhnhhiopiaaDoor
open Go.ChangeShapes Go.WideShapes Go.ChangeAt Go.RowKit

/-- the region of this number in a piece of code -/
def regionOf (n : Nat) : Code → Option Code
  | .region i ops d => if i == n then some (.region i ops d) else none
  | .loop c => regionOf n c
  | .seq a b => match regionOf n a with
    | some c => some c
    | none => regionOf n b
  | .block _ c => regionOf n c
  | .scope c => regionOf n c
  | .cond _ a b => match regionOf n a with
    | some c => some c
    | none => regionOf n b
  | _ => none
noncomputable def pushCode : Code := ((Tryd.f31.body.bind (regionOf 33)).getD .skip)
theorem new_one' (w : World) (v : Value) (e : TypeId) : ∀ j u, ([v] : List Value)[j]? = some u → ((w.alloc (.cells #[v] e)).drew).cell? ((⟨w.heap.size, 0, none⟩ : Addr).add j) = some u := fun j u hu => by
  match j, hu with
  | 0, hu =>
    injection hu with hu
    subst hu
    rw [Addr.add_lit, cell_of_row ((w.alloc (.cells #[v] e)).drew) w.heap.size (0 + 0) #[v] e (0, 0) (heap_alloc_new w _)]
    rfl
set_option maxRecDepth 1000000 in
set_option maxHeartbeats 40000000 in
theorem push_any {B p N M m cp k : Nat} {ao : Option Addr} {xs : List Value} {w : World} {Q : Exit → Act → World → Prop} (ik : TypeInfo) (hi1 : Tryd.prog.info? 68 = some ik) (hi2 : ik.zero = some (.int .u16 0)) (hi3 : ik.size = 1) (hi4 : ik.bytes = 2)
    (q2 : w.cell? ⟨M, 0, none⟩ = some (.pointer (some ⟨p, 0, none⟩))) (a2 : w.cell? ⟨N, 0, none⟩ = some (.int .u16 (k : Int))) (c2 : w.cell? ⟨p, 7, none⟩ = some (.slice ao m cp)) (f2 : w.frozen? ⟨p, 7, none⟩ = false)
    (hown : w.ownsRow B 68 1 (.slice ao m cp) m xs) (hm : m ≤ 100000000) (hB : B ≤ w.heap.size) (hp : (Value.slice ao m cp).ownBlock ≠ some p) (hM : (Value.slice ao m cp).ownBlock ≠ some M) (ds : List Deferred) (x0 x2 x3 x5 x6 x7 x8 x9 x10 x11 x12 x13 x14 x15 x16 x17 x18 x19 x20 x21 x22 x23 x24 x25 x26 x27 x28 x29 x30 x31 x32 x33 x34 x35 x36 x37 x38 x39 x40 x41 x42 x43 x44 x45 x46 x47 x48 x49 x50 x51 x52 x53 x54 x55 x56 x57 x58 x59 x60 x61 x62 x63 x64 x65 x66 x67 x68 x69 x70 x71 x72 x73 x74 x75 x76 x77 x78 x79 x80 x81 x82 x83 x84 x85 x86 x87 x88 x89 x90 x91 x92 x93 x94 x95 x96 x97 x98 x99 x100 x101 x102 x103 x104 x105 x106 x107 x108 x109 x110 x111 x112 x113 x114 x115 x116 x117 x118 x119 x120 x121 x122 x123 x124 x125 x126 x127 x128 x129 x130 x131 x132 x133 x134 x135 x136 x137 x138 x139 x140 x141 x142 x143 x144 x145 x146 x147 x148 x149 x150 x151 x152 x153 x154 x155 x156 x157 x158 x159 x160 x161 x162 x163 x164 x165 x166 x167 x168 x169 x170 x171 x172 x173 x174 x175 x176 x177 x178 x179 x180 x181 x182 x183 x184 x185 x186 x187 x188 x189 x190 x191 x192 x193 x194 x195 x196 x197 x198 x199 x200 x201 x202 x203 x204 x205 x206 x207 x208 x209 x210 x211 x212 x213 x214 x215 x216 x217 x218 x219 x220 x221 x222 x223 x224 x225 x226 x227 x228 x229 x230 x231 x232 x233 x234 x235 x236 x237 x238 x239 x240 x241 x242 x243 x244 x245 x246 x247 x248 x249 x250 x251 x252 x253 x254 x255 x256 x257 x258 x259 x260 x261 x262 x263 x264 x265 x266 x267 x268 x269 x270 x271 x272 x273 x274 x275 x276 x277 x278 x279 x280 x281 x282 x283 x284 x285 x286 x287 x288 x289 x290 x291 x292 x293 x294 x295 x296 x297 x298 x299 x300 x301 x302 x303 x304 x305 : Value)
    (hQ : ∀ gq cap w4, w4.ownsRow B 68 1 (.slice (some ⟨gq, 0, none⟩) (m + 1) cap) (m + 1) (xs ++ [.int .u16 (k : Int)]) → ((w.alloc (.cells #[.int .u16 (k : Int)] 68)).drew).grownBy w4 (Value.slice ao m cp).ownBlock → ((Value.slice ao m cp).ownBlock = some gq ∨ gq = w.heap.size + 1) →
      Q .normal ⟨List.toArray (x0 :: .pointer (some ⟨M, 0, none⟩) :: x2 :: x3 :: .pointer (some ⟨N, 0, none⟩) :: x5 :: x6 :: x7 :: x8 :: x9 :: x10 :: x11 :: x12 :: x13 :: x14 :: x15 :: x16 :: x17 :: x18 :: x19 :: x20 :: x21 :: x22 :: x23 :: x24 :: x25 :: x26 :: x27 :: x28 :: x29 :: x30 :: x31 :: x32 :: x33 :: x34 :: x35 :: x36 :: x37 :: x38 :: x39 :: x40 :: x41 :: x42 :: x43 :: x44 :: x45 :: x46 :: x47 :: x48 :: x49 :: x50 :: x51 :: x52 :: x53 :: x54 :: x55 :: x56 :: x57 :: x58 :: x59 :: x60 :: x61 :: x62 :: x63 :: x64 :: x65 :: x66 :: x67 :: x68 :: x69 :: x70 :: x71 :: x72 :: x73 :: x74 :: x75 :: x76 :: x77 :: x78 :: x79 :: x80 :: x81 :: x82 :: x83 :: x84 :: x85 :: x86 :: x87 :: x88 :: x89 :: x90 :: x91 :: x92 :: x93 :: x94 :: x95 :: x96 :: x97 :: x98 :: x99 :: x100 :: x101 :: x102 :: x103 :: x104 :: x105 :: x106 :: x107 :: x108 :: x109 :: x110 :: x111 :: x112 :: x113 :: x114 :: x115 :: x116 :: x117 :: x118 :: x119 :: x120 :: x121 :: x122 :: x123 :: x124 :: x125 :: x126 :: x127 :: x128 :: x129 :: x130 :: x131 :: x132 :: x133 :: x134 :: x135 :: x136 :: x137 :: x138 :: x139 :: x140 :: x141 :: x142 :: x143 :: x144 :: .pointer (some ⟨p, 0, none⟩) :: .pointer (some ⟨p, 0, none⟩) :: .pointer (some ⟨p, 0, none⟩) :: .pointer (some ⟨p, 7, none⟩) :: .slice ao m cp :: .pointer (some ⟨N, 0, none⟩) :: .int .u16 (k : Int) :: .slice (some ⟨w.heap.size, 0, none⟩) 1 1 :: .slice (some ⟨gq, 0, none⟩) (m + 1) cap :: .pointer (some ⟨p, 0, none⟩) :: .pointer (some ⟨p, 7, none⟩) :: x156 :: x157 :: x158 :: x159 :: x160 :: x161 :: x162 :: x163 :: x164 :: x165 :: x166 :: x167 :: x168 :: x169 :: x170 :: x171 :: x172 :: x173 :: x174 :: x175 :: x176 :: x177 :: x178 :: x179 :: x180 :: x181 :: x182 :: x183 :: x184 :: x185 :: x186 :: x187 :: x188 :: x189 :: x190 :: x191 :: x192 :: x193 :: x194 :: x195 :: x196 :: x197 :: x198 :: x199 :: x200 :: x201 :: x202 :: x203 :: x204 :: x205 :: x206 :: x207 :: x208 :: x209 :: x210 :: x211 :: x212 :: x213 :: x214 :: x215 :: x216 :: x217 :: x218 :: x219 :: x220 :: x221 :: x222 :: x223 :: x224 :: x225 :: x226 :: x227 :: x228 :: x229 :: x230 :: x231 :: x232 :: x233 :: x234 :: x235 :: x236 :: x237 :: x238 :: x239 :: x240 :: x241 :: x242 :: x243 :: x244 :: x245 :: x246 :: x247 :: x248 :: x249 :: x250 :: x251 :: x252 :: x253 :: x254 :: x255 :: x256 :: x257 :: x258 :: x259 :: x260 :: x261 :: x262 :: x263 :: x264 :: x265 :: x266 :: x267 :: x268 :: x269 :: x270 :: x271 :: x272 :: x273 :: x274 :: x275 :: x276 :: x277 :: x278 :: x279 :: x280 :: x281 :: x282 :: x283 :: x284 :: x285 :: x286 :: x287 :: x288 :: x289 :: x290 :: x291 :: x292 :: x293 :: x294 :: x295 :: x296 :: x297 :: x298 :: x299 :: x300 :: x301 :: x302 :: x303 :: x304 :: x305 :: []), ds⟩ (w4.setCell ⟨p, 7, none⟩ (.slice (some ⟨gq, 0, none⟩) (m + 1) cap))) :
    pushCode.wp Tryd.prog (NoPanic Q) ⟨List.toArray (x0 :: .pointer (some ⟨M, 0, none⟩) :: x2 :: x3 :: .pointer (some ⟨N, 0, none⟩) :: x5 :: x6 :: x7 :: x8 :: x9 :: x10 :: x11 :: x12 :: x13 :: x14 :: x15 :: x16 :: x17 :: x18 :: x19 :: x20 :: x21 :: x22 :: x23 :: x24 :: x25 :: x26 :: x27 :: x28 :: x29 :: x30 :: x31 :: x32 :: x33 :: x34 :: x35 :: x36 :: x37 :: x38 :: x39 :: x40 :: x41 :: x42 :: x43 :: x44 :: x45 :: x46 :: x47 :: x48 :: x49 :: x50 :: x51 :: x52 :: x53 :: x54 :: x55 :: x56 :: x57 :: x58 :: x59 :: x60 :: x61 :: x62 :: x63 :: x64 :: x65 :: x66 :: x67 :: x68 :: x69 :: x70 :: x71 :: x72 :: x73 :: x74 :: x75 :: x76 :: x77 :: x78 :: x79 :: x80 :: x81 :: x82 :: x83 :: x84 :: x85 :: x86 :: x87 :: x88 :: x89 :: x90 :: x91 :: x92 :: x93 :: x94 :: x95 :: x96 :: x97 :: x98 :: x99 :: x100 :: x101 :: x102 :: x103 :: x104 :: x105 :: x106 :: x107 :: x108 :: x109 :: x110 :: x111 :: x112 :: x113 :: x114 :: x115 :: x116 :: x117 :: x118 :: x119 :: x120 :: x121 :: x122 :: x123 :: x124 :: x125 :: x126 :: x127 :: x128 :: x129 :: x130 :: x131 :: x132 :: x133 :: x134 :: x135 :: x136 :: x137 :: x138 :: x139 :: x140 :: x141 :: x142 :: x143 :: x144 :: x145 :: x146 :: x147 :: x148 :: x149 :: x150 :: x151 :: x152 :: x153 :: x154 :: x155 :: x156 :: x157 :: x158 :: x159 :: x160 :: x161 :: x162 :: x163 :: x164 :: x165 :: x166 :: x167 :: x168 :: x169 :: x170 :: x171 :: x172 :: x173 :: x174 :: x175 :: x176 :: x177 :: x178 :: x179 :: x180 :: x181 :: x182 :: x183 :: x184 :: x185 :: x186 :: x187 :: x188 :: x189 :: x190 :: x191 :: x192 :: x193 :: x194 :: x195 :: x196 :: x197 :: x198 :: x199 :: x200 :: x201 :: x202 :: x203 :: x204 :: x205 :: x206 :: x207 :: x208 :: x209 :: x210 :: x211 :: x212 :: x213 :: x214 :: x215 :: x216 :: x217 :: x218 :: x219 :: x220 :: x221 :: x222 :: x223 :: x224 :: x225 :: x226 :: x227 :: x228 :: x229 :: x230 :: x231 :: x232 :: x233 :: x234 :: x235 :: x236 :: x237 :: x238 :: x239 :: x240 :: x241 :: x242 :: x243 :: x244 :: x245 :: x246 :: x247 :: x248 :: x249 :: x250 :: x251 :: x252 :: x253 :: x254 :: x255 :: x256 :: x257 :: x258 :: x259 :: x260 :: x261 :: x262 :: x263 :: x264 :: x265 :: x266 :: x267 :: x268 :: x269 :: x270 :: x271 :: x272 :: x273 :: x274 :: x275 :: x276 :: x277 :: x278 :: x279 :: x280 :: x281 :: x282 :: x283 :: x284 :: x285 :: x286 :: x287 :: x288 :: x289 :: x290 :: x291 :: x292 :: x293 :: x294 :: x295 :: x296 :: x297 :: x298 :: x299 :: x300 :: x301 :: x302 :: x303 :: x304 :: x305 :: []), ds⟩ w := by
  have hlt := World.block_lt_of_cell? _ _ c2
  have hltM := World.block_lt_of_cell? _ _ q2
  have hltN := World.block_lt_of_cell? _ _ a2
  have HQ := hid hQ
  clear hQ
  conv => arg 2; whnf
  go_region_law
    (refine step_append_lies (P := Tryd.prog) _ (by rfl) _ _ 79 (by rfl) B 68 ik (.int .u16 0) 1 2 Tryd.underlying79 hi1 hi2 hi3 hi4 rfl (by decide) _ m xs (by rfl) (World.ownsRow.alloc hown _) ⟨w.heap.size, 0, none⟩ 1 _ [.int .u16 (k : Int)] (by rfl) rfl (new_one' _ _ _) (by intro u hu; simp at hu; subst hu; rfl) (by decide) (by unfold maxLen; omega) (by omega) (le_alloc _ _ hB) _ rfl ?_; intro gq cap4 w4 hown4 hgrow4 hat4 hlt4
     have h1 := (Below.refl _ w).alloc (Nat.le_refl _) (.cells #[.int .u16 (k : Int)] 68)
     have h2 := h1.size
     have c4 : w4.cell? ⟨p, 7, none⟩ = some (.slice ao m cp) := (World.cell?_of_block (a := ⟨p, 7, none⟩) (hgrow4.block p (Nat.lt_of_lt_of_le hlt h2) (fun e => hp e.symm))).trans ((h1.cell hlt).trans c2)
     have f4 : w4.frozen? ⟨p, 7, none⟩ = false := (World.frozen?_of_block (a := ⟨p, 7, none⟩) (hgrow4.block p (Nat.lt_of_lt_of_le hlt h2) (fun e => hp e.symm))).trans ((h1.frozen hlt).trans f2)
     have q4 : w4.cell? ⟨M, 0, none⟩ = some (.pointer (some ⟨p, 0, none⟩)) := (World.cell?_of_block (a := ⟨M, 0, none⟩) (hgrow4.block M (Nat.lt_of_lt_of_le hltM h2) (fun e => hM e.symm))).trans ((h1.cell hltM).trans q2))
  all_goals
    refine NoPanic.normal ?_
    refine HQ.out _ _ _ hown4 hgrow4 ?_
    simpa using hat4
end Go.Proofs.YtjkmmhnhhiopiaaDoor
