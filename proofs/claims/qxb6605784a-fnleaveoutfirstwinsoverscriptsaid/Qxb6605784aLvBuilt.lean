import Derived.Test.Qxb6605784aLvParts
namespace Go.Proofs.Qxb6605784a.Leave
open Go.RowKit
open Extern.Stop (cell)
set_option linter.unusedVariables false

def z72 : List Value := List.replicate 33 (.int .u8 0)

theorem built72 (parts : List (Nat × Value)) : Try.prog.built 72 parts = Instr.fill (fun i => [(0, 32), (32, 1)].toArray[i]?) zPart.cells parts := by kernel_rfl
def z36 : Array Value := (List.replicate 96 (Value.int .u8 0) ++ [Value.slice none 0 0]).toArray
def z38 : Array Value := (List.replicate 64 (Value.int .u8 0)).toArray
def z40 : Array Value := (List.replicate 96 (Value.int .u8 0) ++ [Value.slice none 0 0] ++ List.replicate 64 (Value.int .u8 0)).toArray
theorem built36 (parts : List (Nat × Value)) : Try.prog.built 36 parts = Instr.fill (fun i => [(0, 32), (32, 64), (96, 1)].toArray[i]?) z36 parts := by kernel_rfl
theorem built38 (parts : List (Nat × Value)) : Try.prog.built 38 parts = Instr.fill (fun i => [(0, 32), (32, 32)].toArray[i]?) z38 parts := by kernel_rfl
theorem built40 (parts : List (Nat × Value)) : Try.prog.built 40 parts = Instr.fill (fun i => [(0, 97), (97, 64)].toArray[i]?) z40 parts := by kernel_rfl

/-- A build of two parts that fill it. -/
theorem fill_two {place : Nat → Option (Nat × Nat)} {z : Array Value} (xs ys : List Value) (u v : Value) (hu : u.cells = xs.toArray) (hv : v.cells = ys.toArray)
    (h0 : place 0 = some (0, xs.length)) (h1 : place 1 = some (xs.length, ys.length)) (hz : z.size = xs.length + ys.length) :
    Instr.fill place z [(0, u), (1, v)] = some (xs ++ ys).toArray := by
  obtain ⟨z⟩ := z
  simp only [List.size_toArray] at hz
  have a := fill_step place 0 xs u hu [] z [(1, v)] (by simpa using h0) (by omega)
  simp only [List.nil_append] at a
  rw [a]
  have b := fill_step place 1 ys v hv xs (z.drop xs.length) [] h1 (by simp; omega)
  rw [b, Instr.fill, List.drop_drop, List.drop_eq_nil_of_le (by omega), List.append_nil]

theorem fill_three {place : Nat → Option (Nat × Nat)} {z : Array Value} (xs ys zs : List Value) (u v t : Value) (hu : u.cells = xs.toArray) (hv : v.cells = ys.toArray) (ht : t.cells = zs.toArray)
    (h0 : place 0 = some (0, xs.length)) (h1 : place 1 = some (xs.length, ys.length)) (h2 : place 2 = some (xs.length + ys.length, zs.length)) (hz : z.size = xs.length + ys.length + zs.length) :
    Instr.fill place z [(0, u), (1, v), (2, t)] = some (xs ++ ys ++ zs).toArray := by
  obtain ⟨z⟩ := z
  simp only [List.size_toArray] at hz
  have a := fill_step place 0 xs u hu [] z [(1, v), (2, t)] (by simpa using h0) (by omega)
  simp only [List.nil_append] at a
  rw [a]
  have b := fill_step place 1 ys v hv xs (z.drop xs.length) [(2, t)] h1 (by simp; omega)
  have c := fill_step place 2 zs t ht (xs ++ ys) ((z.drop xs.length).drop ys.length) [] (by simpa using h2) (by simp; omega)
  rw [b, c, Instr.fill, List.drop_drop, List.drop_drop, List.drop_eq_nil_of_le (by omega), List.append_nil]

theorem build72 (K : List UInt8) (t : Int) (hK : K.length = 32) (w : World) : (Instr.build 72 #[(0, .agg (K.map cell).toArray), (1, .int .u64 t)]).run Try.prog w = .ok (.agg (partCells K t).toArray) w :=
  run_build w 72 _ _ (by
    rw [built72]
    exact fill_two (K.map cell) [.int .u64 t] _ _ rfl rfl (by simp [hK]) (by simp [hK]) (by simp [hK, zPart, Value.cells]))

/-- A version's 161 cells. -/
def stCells (D S : List UInt8) (p : Value) : List Value := D.map cell ++ S.map cell ++ [p]
def valCells (X Y : List UInt8) : List Value := X.map cell ++ Y.map cell
def verCells (D S : List UInt8) (p : Value) (X Y : List UInt8) : List Value := stCells D S p ++ valCells X Y

theorem build36 (D S : List UInt8) (a : Option Addr) (n c : Nat) (hD : D.length = 32) (hS : S.length = 64) (w : World) :
    (Instr.build 36 #[(0, .agg (D.map cell).toArray), (1, .agg (S.map cell).toArray), (2, .slice a n c)]).run Try.prog w = .ok (.agg (stCells D S (.slice a n c)).toArray) w :=
  run_build w 36 _ _ (by
    rw [built36]
    exact fill_three (D.map cell) (S.map cell) [.slice a n c] _ _ _ rfl rfl rfl (by simp [hD]) (by simp [hD, hS]) (by simp [hD, hS]) (by simp [hD, hS, z36]))
theorem build38 (X Y : List UInt8) (hX : X.length = 32) (hY : Y.length = 32) (w : World) :
    (Instr.build 38 #[(0, .agg (X.map cell).toArray), (1, .agg (Y.map cell).toArray)]).run Try.prog w = .ok (.agg (valCells X Y).toArray) w :=
  run_build w 38 _ _ (by
    rw [built38]
    exact fill_two (X.map cell) (Y.map cell) _ _ rfl rfl (by simp [hX]) (by simp [hX, hY]) (by simp [hX, hY, z38]))
theorem build40 (D S X Y : List UInt8) (a : Option Addr) (n c : Nat) (hD : D.length = 32) (hS : S.length = 64) (hX : X.length = 32) (hY : Y.length = 32) (w : World) :
    (Instr.build 40 #[(0, .agg (stCells D S (.slice a n c)).toArray), (1, .agg (valCells X Y).toArray)]).run Try.prog w = .ok (.agg (verCells D S (.slice a n c) X Y).toArray) w :=
  run_build w 40 _ _ (by
    rw [built40]
    exact fill_two (stCells D S (.slice a n c)) (valCells X Y) _ _ rfl rfl (by simp [hD, hS, stCells]) (by simp [hD, hS, hX, hY, stCells, valCells]) (by simp [hD, hS, hX, hY, stCells, valCells, z40]))

end Go.Proofs.Qxb6605784a.Leave
